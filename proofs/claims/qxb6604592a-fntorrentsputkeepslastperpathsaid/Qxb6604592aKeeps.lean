import Derived.Test.Qxb6604592aHeld
namespace Go.Proofs.Qxb6604592a
open Go.RowKit Go.Maps

set_option maxHeartbeats 1000000 in
theorem keeps_some (ad : Addr) (len cap : Nat) (ss : List St) (w : World) (h : IsSteps w ad len ss) :
    Calls Try.prog 3 #[.slice (some ad) len cap] w fun e w' => e = .returned (.bool true) ∧ Below w.heap.size w w' := by
  have hmost := h.most
  unfold maxLen at hmost
  go_enter Try.func3, Try.ntmps3
  go_wp2_with fail
  refine (bytes5_any cap h).mono ?_
  rintro e w0 ⟨⟨r, rfl⟩, rfl⟩
  cases r
  · go_wp2
    go_ret
    exact ⟨rfl, Below.refl _ _⟩
  go_wp2_with fail
  refine (putBytes_any cap h).mono ?_
  rintro e w' ⟨⟨r, rfl⟩, q, rfl⟩
  by_cases hr : 1048576 < r
  · go_wp2
    go_ret
    exact ⟨rfl, by exact below_drewN (Below.refl _ _) _⟩
  by_cases hlen : len ≤ 1024
  rotate_left
  · go_wp2
    go_ret
    exact ⟨rfl, by exact below_drewN (Below.refl _ _) _⟩
  go_wp2_with fail
  refine (copy_any cap (h.drewN q) hlen).mono ?_
  rintro e w1 ⟨rfl, hb1, hlt1, hS1⟩
  replace hb1 : Below w0.heap.size w0 w1 := (below_drewN (Below.refl _ _) q).trans hb1
  replace hlt1 : w0.heap.size < w1.heap.size := hlt1
  replace hS1 : StepsAt w1 w0.heap.size 0 ss := hS1
  obtain ⟨B, hB⟩ : ∃ B, B = w0.heap.size := ⟨_, rfl⟩
  have e0 : (w0.drewN q).heap.size = B := hB.symm
  rw [e0]
  rw [← hB] at hlt1 hS1
  have HB : Hid (B = w0.heap.size) := hB
  have HL : Hid (ss.length = len) := h.len_eq
  clear hB e0 h hr
  go_wp2_with fail
  refine (new_any w1).mono ?_
  rintro e w2 ⟨rfl, hw2⟩
  have hts : IsTs w2 (w1.heap.size + 1) w1.heap.size 0 (filled (ss.take 0)) := by
    rw [hw2]
    exact ⟨by simp [go_sem], by simp [go_sem], by simp [go_sem], by omega, (World.ownsMap_made w1 Try.prog 9 contentElem).alloc _⟩
  have hb2 : Below w0.heap.size w0 w2 := by rw [hw2]; exact (hb1.alloc (by have := hb1.size; omega) _).alloc (by have := hb1.size; simp; omega) _
  have hS2 : StepsAt w2 B 0 ss := hS1.same (by rw [hw2, Below.heap_alloc _ _ _ (by simp; omega), Below.heap_alloc _ _ _ hlt1])
  obtain ⟨bm, hbm⟩ : ∃ bm, bm = w1.heap.size := ⟨_, rfl⟩
  rw [← hbm] at hts hlt1 ⊢
  clear hw2 hbm hb1 hS1
  go_wp2_with fail
  go_loopw [4] (fun i wr => ∃ k : Nat, k ≤ len ∧ i = .int .i64 k ∧ IsTs wr (bm + 1) bm k (filled (ss.take k)) ∧ StepsAt wr B 0 ss ∧ Below w0.heap.size w0 wr) (fun i _ => len - (intOf i).toNat)
  case atStart => exact ⟨0, Nat.zero_le _, rfl, hts, hS2, hb2⟩
  case round =>
    obtain ⟨k, hk, rfl, hts', hS', hb'⟩ := hrel
    clear hts hS2 hb2
    by_cases hlt : k < len
    · have hk' : k < ss.length := by rw [HL.out]; exact hlt
      obtain ⟨s, hs⟩ : ∃ s, ss[k]? = some s := ⟨_, List.getElem?_eq_getElem hk'⟩
      obtain ⟨⟨c0, c1, c2, c3, c4⟩, z0, z1⟩ := hS' k s hs
      simp only [Nat.zero_add] at c0 c1 c2 c3 c4
      have hBlt : B < wr.heap.size := World.block_lt_of_cell? _ _ c0
      have i0 : (0 : Int) ≤ (k : Int) := by omega
      have i1 : (k : Int) < (len : Int) := by omega
      have hD := filled_take ss k s hs
      have HD : Hid (filled (ss.take (k + 1)) = (filled (ss.take k)).put s.key s.datum) := hD
      have hpz : s.path.size ≤ maxLen := z0
      have hkz : k < maxLen := by unfold maxLen; omega
      clear hs hk' hD z0 z1
      go_wp2_with fail
      go_region_held3 (fun w' => w'.cell? ⟨B, k * 5, none⟩ = some (.string s.path) ∧ w'.cell? ⟨B, k * 5 + 1, none⟩ = some (.string s.name) ∧ w'.cell? ⟨B, k * 5 + 2, none⟩ = some (.int .i64 s.size) ∧ w'.cell? ⟨B, k * 5 + 3, none⟩ = some (.int .i64 s.pl) ∧ w'.cell? ⟨B, k * 5 + 4, none⟩ = some (.int .i64 s.files)) (go_keep)
        (first
          | (go_at_call 10; refine (content_any s.path s.name s.size s.pl s.files _).mono ?_; rintro e w' ⟨rfl, rfl⟩)
          | (go_at_call 9; refine (zzput_any (bm + 1) bm k _ s.path s.name s.size s.pl s.files _ ((hts'.drew.alloc _).alloc _) hkz hpz).mono ?_; rintro e w' ⟨rfl, h1, h2⟩; have hcB : ∀ o, w'.cell? ⟨B, o, none⟩ = wr.cell? ⟨B, o, none⟩ := (fun o => (h2.cell (p := ⟨B, o, none⟩) (by simp; omega) (by simp; omega) (by simp; omega)).trans (by simp [go_sem, hBlt, Nat.lt_succ_of_lt hBlt]))))
      clear hcB
      have hT : Touched wr w' (bm + 1) bm := ((((Touched.refl wr (bm + 1) bm).drew).alloc _).alloc _).trans h2
      have hts1 : IsTs w' (bm + 1) bm (k + 1) (filled (ss.take (k + 1))) := by rw [HD.out]; exact h1
      have hS1 : StepsAt w' B 0 ss := hS'.same (hT.block B hBlt (by omega) (by omega))
      have hb1 : Below w0.heap.size w0 w' := hb'.trans (hT.below hb'.size (by have := HB.out; omega) (by have := HB.out; omega))
      clear h1 h2 hT
      go_wp2
      go_roundw
      case rel => exact ⟨k + 1, by omega, by go_num, hts1, hS1, hb1⟩
      case measure => simp [intOf]; omega
    · obtain rfl : len = k := by omega
      have hts2 : IsTs wr (bm + 1) bm len (filled ss) := by rw [List.take_of_length_le (by rw [HL.out]; exact Nat.le_refl _)] at hts'; exact hts'
      clear hts'
      go_wp2_with fail
      refine (byPath_any (bm + 1) bm wr hts2.c2).mono ?_
      rintro e wq ⟨rfl, hwq⟩
      rw [hwq]
      clear hwq
      obtain ⟨wo, hwo⟩ : ∃ wo : World, wo = wr := ⟨_, rfl⟩
      subst hwo
      go_wp2_with fail
      go_loopw [6, 7] (fun d i wx => ∃ k : Nat, k ≤ len ∧ i = .int .i64 k ∧ d = .int .i64 (size (filled (ss.take k))) ∧ IsTs wx (bm + 1) bm len (filled ss) ∧ StepsAt wx B 0 ss ∧ Below w0.heap.size w0 wx) (fun _ i _ => len - (intOf i).toNat)
      case atStart => exact ⟨0, Nat.zero_le _, rfl, rfl, hts2, hS', hb'⟩
      case round =>
        clear hts2 hS' hb'
        obtain ⟨k, hk, rfl, rfl, hts', hS', hb'⟩ := hrel
        by_cases hlt : k < len
        · have hk' : k < ss.length := by rw [HL.out]; exact hlt
          obtain ⟨s, hs⟩ : ∃ s, ss[k]? = some s := ⟨_, List.getElem?_eq_getElem hk'⟩
          obtain ⟨⟨c0, -⟩, z0, -⟩ := hS' k s hs
          simp only [Nat.zero_add] at c0
          have hBlt : B < wr.heap.size := World.block_lt_of_cell? _ _ c0
          have i0 : (0 : Int) ≤ (k : Int) := by omega
          have i1 : (k : Int) < (len : Int) := by omega
          have HZ : Hid (size (filled (ss.take (k + 1))) = size (filled (ss.take k)) + if firstTo (pathAt ss) k len then 1 else 0) := by
            have := size_filled ss k hk'
            rw [HL.out] at this
            exact this
          have hzle := size_filled_le ss k (by omega)
          obtain ⟨z, hz⟩ : ∃ z, z = size (filled (ss.take k)) := ⟨_, rfl⟩
          rw [← hz] at HZ hzle ⊢
          clear hz
          obtain ⟨wi, hwi⟩ : ∃ wi : World, wi = wr := ⟨_, rfl⟩
          subst hwi
          go_wp2_with fail
          go_loopw [8, 9, 10] (fun a b i wx => ∃ (m L : Nat) (F : Bool) (q : Nat), m ≤ len ∧ L < len ∧ i = .int .i64 m ∧ a = .int .i64 L ∧ b = .bool F ∧ Hid (L = lastTo (pathAt ss) k m) ∧ Hid (F = firstTo (pathAt ss) k m) ∧ wx = wi.drewN q) (fun _ _ i _ => len - (intOf i).toNat)
          case atStart => exact ⟨0, k, true, 0, Nat.zero_le _, hlt, rfl, rfl, rfl, rfl, rfl, rfl⟩
          case round =>
            obtain ⟨m, L, F, q, hm, hL, rfl, rfl, rfl, EL, EF, rfl⟩ := hrel
            by_cases hmt : m < len
            · have hm' : m < ss.length := by rw [HL.out]; exact hmt
              obtain ⟨t, ht⟩ : ∃ t, ss[m]? = some t := ⟨_, List.getElem?_eq_getElem hm'⟩
              obtain ⟨⟨d0, -⟩, -, -⟩ := hS' m t ht
              simp only [Nat.zero_add] at d0
              have j0 : (0 : Int) ≤ (m : Int) := by omega
              have j1 : (m : Int) < (len : Int) := by omega
              have PT : Hid (pathAt ss m = t.path) := pathAt_some ht
              have PS : Hid (pathAt ss k = s.path) := pathAt_some hs
              go_wp2_with fail
              go_quiet (fail)
              go_wp2
              all_goals
                go_roundw
                case rel =>
                  refine ⟨m + 1, _, _, _, by omega, ?_, by go_num, rfl, rfl, ?_, ?_, rfl⟩
                  · omega
                  · first | exact last_up EL.out PT.out PS.out ‹_› ‹_› | exact last_stay EL.out ‹_› | exact last_ne EL.out PT.out PS.out ‹_›
                  · first | exact first_no PT.out PS.out ‹_› ‹_› | exact first_stay EF.out ‹_› | exact first_ne EF.out PT.out PS.out ‹_›
                case measure => simp [intOf]; omega
            · obtain rfl : len = m := by omega
              obtain ⟨t, ht, htp, hat, hhas⟩ : ∃ t, ss[L]? = some t ∧ t.path = s.path ∧ (∀ z, (filled ss).atKey s.key z = t.datum) ∧ has (filled ss) s.key = true := by
                obtain ⟨t, h1, h2, _, h4⟩ := found ss k s hs (.map [])
                refine ⟨t, by rw [EL.out]; rw [HL.out] at h1; exact h1, h2, fun z => ?_, h4⟩
                obtain ⟨t', h1', _, h3', _⟩ := found ss k s hs z
                rw [h1] at h1'
                cases h1'
                exact h3'
              have htsJ : IsTs (wi.drewN q) (bm + 1) bm len (filled ss) := ⟨hts'.c0, hts'.c2, hts'.f0, hts'.ne, hts'.own⟩
              have hSJ : StepsAt (wi.drewN q) B 0 ss := hS'.same rfl
              have hbJ : Below w0.heap.size w0 (wi.drewN q) := below_drewN hb' q
              clear hts' hS' hb' c0 hBlt
              generalize wi.drewN q = wj at htsJ hSJ hbJ ⊢
              obtain ⟨⟨c0, -⟩, -⟩ := hSJ k s hs
              obtain ⟨⟨d0, d1, d2, d3, d4⟩, -⟩ := hSJ L t ht
              simp only [Nat.zero_add] at c0 d0 d1 d2 d3 d4
              have hBlt : B < wj.heap.size := World.block_lt_of_cell? _ _ c0
              have l0 : (0 : Int) ≤ (L : Int) := by omega
              have l1 : (L : Int) < (len : Int) := by omega
              have hown := htsJ.own
              have HZF : Hid (size (filled (ss.take (k + 1))) = z + if F then 1 else 0) := by rw [EF.out]; exact HZ
              cases F
              all_goals go_wp2_with (at_lookup; refine wpList_lookup_content _ rfl _ _ rfl bm len (filled ss) rfl hown s t rfl z0 hat hhas ?_)
              all_goals
                have hB1 : B < wj.heap.size + 1 := by omega
                have hB2 : B < wj.heap.size + 1 + 1 := by omega
                have R : Hid (∀ w', Below wj.heap.size wj w' → IsTs w' (bm + 1) bm len (filled ss) ∧ StepsAt w' B 0 ss ∧ Below w0.heap.size w0 w') := fun w' hb => ⟨htsJ.below hb, hSJ.same (hb.block B hBlt), hbJ.trans (hb.mono hbJ.size)⟩
                clear hat hhas hown htsJ hbJ hSJ HZ EL EF hs ht htp HL HB
                go_region_held3 (fun w' => w'.cell? ⟨wj.heap.size, 0, none⟩ = some (.string t.name) ∧ w'.cell? ⟨wj.heap.size, 1, none⟩ = some (.int .i64 t.size) ∧ w'.cell? ⟨wj.heap.size, 2, none⟩ = some (.int .i64 t.pl) ∧ w'.cell? ⟨wj.heap.size, 3, none⟩ = some (.int .i64 t.files) ∧
                    w'.cell? ⟨B, L * 5, none⟩ = some (.string t.path) ∧ w'.cell? ⟨B, L * 5 + 1, none⟩ = some (.string t.name) ∧ w'.cell? ⟨B, L * 5 + 2, none⟩ = some (.int .i64 t.size) ∧ w'.cell? ⟨B, L * 5 + 3, none⟩ = some (.int .i64 t.pl) ∧ w'.cell? ⟨B, L * 5 + 4, none⟩ = some (.int .i64 t.files)) (simp [go_sem, d0, d1, d2, d3, d4, hBlt, hB1, hB2])
                  (first | (go_at_call 10; refine (content_any t.path t.name t.size t.pl t.files _).mono ?_; rintro e w' ⟨rfl, rfl⟩))
                go_wp2
                go_roundw
                case rel =>
                  obtain ⟨r1, r2, r3⟩ := R.out _ ((((((Below.refl wj.heap.size wj).alloc (Nat.le_refl _) (.cells #[.string t.name, .int .i64 t.size, .int .i64 t.pl, .int .i64 t.files] 32)).alloc (by simp) (.cells #[.string t.path, .string t.name, .int .i64 t.size, .int .i64 t.pl, .int .i64 t.files] 30)).alloc (by simp; omega) (.cells #[.string t.name, .int .i64 t.size, .int .i64 t.pl, .int .i64 t.files] 32))).drew)
                  exact ⟨k + 1, by omega, by go_num, by rw [HZF.out]; simp, r1, r2, r3⟩
                case measure => simp [intOf]; omega
        · obtain rfl : len = k := by omega
          have hall : ss.take len = ss := List.take_of_length_le (by rw [HL.out]; exact Nat.le_refl _)
          rw [hall]
          have hown := hts'.own
          clear hall
          go_wp2_with (at_len; refine wpList_len_own _ rfl _ 34 rfl 9 32 Try.underlying34 _ bm len (filled ss) rfl hown ?_)
          go_ret
          exact ⟨by simp, hb'⟩
end Go.Proofs.Qxb6604592a
