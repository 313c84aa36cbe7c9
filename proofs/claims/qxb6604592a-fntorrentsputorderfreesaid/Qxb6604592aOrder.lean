import Derived.Test.Qxb6604592aPlain2
namespace Go.Proofs.Qxb6604592a
open Go.RowKit Go.Maps

set_option maxRecDepth 20000 in
set_option maxHeartbeats 2000000 in
theorem order_some (b off len cap : Nat) (ss : List St) (w : World) (h : IsSteps w ⟨b, off, none⟩ len ss) (hS0 : StepsAt w b off ss) :
    Calls Try.prog 4 #[.slice (some ⟨b, off, none⟩) len cap] w fun e w' => e = .returned (.bool true) ∧ Below w.heap.size w w' := by
  have hmost := h.most
  unfold maxLen at hmost
  go_enter Try.func4, Try.ntmps4
  go_wp2_with fail
  refine (bytes12_any cap h).mono ?_
  rintro e w0 ⟨⟨r, rfl⟩, rfl⟩
  cases r
  · go_wp2
    go_ret
    exact ⟨rfl, Below.refl _ _⟩
  go_wp2_with fail
  refine (putBytes_any cap h).mono ?_
  rintro e w' ⟨⟨r, rfl⟩, q, rfl⟩
  by_cases hr : 1048576 < r
  · go_wp2
    go_ret
    exact ⟨rfl, by exact below_drewN (Below.refl _ _) _⟩
  by_cases hlen : len ≤ 1024
  rotate_left
  · go_wp2
    go_ret
    exact ⟨rfl, by exact below_drewN (Below.refl _ _) _⟩
  have HL : Hid (ss.length = len) := h.len_eq
  go_wp2_with fail
  -- no two paths are one
  go_loopw [3] (fun i wr => ∃ (k q : Nat), k ≤ len ∧ i = .int .i64 k ∧ Hid (∀ x y, x < k → x < y → y < len → pathAt ss x ≠ pathAt ss y) ∧ wr = w0.drewN q) (fun i _ => len - (intOf i).toNat)
  case atStart => exact ⟨0, q, Nat.zero_le _, rfl, fun x y hx => by omega, rfl⟩
  case round =>
    obtain ⟨k, q, hk, rfl, HP, rfl⟩ := hrel
    by_cases hlt : k < len
    · have hk' : k < ss.length := by rw [HL.out]; exact hlt
      obtain ⟨s, hs⟩ : ∃ s, ss[k]? = some s := ⟨_, List.getElem?_eq_getElem hk'⟩
      obtain ⟨⟨c0, -⟩, -⟩ := hS0 k s hs
      have i0 : (0 : Int) ≤ (k : Int) := by omega
      have i1 : (k : Int) < (len : Int) := by omega
      have PS : Hid (pathAt ss k = s.path) := pathAt_some hs
      clear hs hk'
      go_wp2_with fail
      go_loopw [4] (fun i wr => ∃ (m q : Nat), k < m ∧ m ≤ len ∧ i = .int .i64 m ∧ Hid (∀ y, k < y → y < m → pathAt ss k ≠ pathAt ss y) ∧ wr = w0.drewN q) (fun i _ => len - (intOf i).toNat)
      case atStart => exact ⟨k + 1, q, by omega, by omega, by go_num, fun y h1 h2 => by omega, rfl⟩
      case round =>
        obtain ⟨m, q, hkm, hm, rfl, HK, rfl⟩ := hrel
        by_cases hmt : m < len
        · have hm' : m < ss.length := by rw [HL.out]; exact hmt
          obtain ⟨t, ht⟩ : ∃ t, ss[m]? = some t := ⟨_, List.getElem?_eq_getElem hm'⟩
          obtain ⟨⟨d0, -⟩, -⟩ := hS0 m t ht
          have j0 : (0 : Int) ≤ (m : Int) := by omega
          have j1 : (m : Int) < (len : Int) := by omega
          have PT : Hid (pathAt ss m = t.path) := pathAt_some ht
          clear ht hm'
          go_wp2_with fail
          go_quiet (fail)
          go_wp2
          case roundEnd =>
            have hne : (s.path.toList == t.path.toList) = false := by assumption
            go_roundw
            case rel =>
              refine ⟨m + 1, _, by omega, by omega, by go_num, fun y h1 h2 => ?_, rfl⟩
              rcases Nat.lt_succ_iff_lt_or_eq.1 h2 with h3 | rfl
              · exact HK.out y h1 h3
              · rw [PS.out, PT.out]; exact str_ne hne
            case measure => simp [intOf]; omega
          all_goals
            go_ret
            exact ⟨rfl, by exact below_drewN (below_drewN (Below.refl _ _) _) _⟩
        · obtain rfl : len = m := by omega
          go_wp2
          go_roundw
          case rel =>
            refine ⟨k + 1, _, by omega, by go_num, fun x y h1 h2 h3 => ?_, rfl⟩
            rcases Nat.lt_succ_iff_lt_or_eq.1 h1 with h4 | rfl
            · exact HP.out x y h4 h2 h3
            · exact HK.out y h2 h3
          case measure => simp [intOf]; omega
    · obtain rfl : len = k := by omega
      have HDi : Hid (Distinct ss) := distinct_of HL.out (fun i j h1 h2 => HP.out i j (by omega) h1 h2)
      clear HP hS0 hr hk hlt
      go_wp2_with fail
      refine (copy_any cap (h.drewN q) hlen).mono ?_
      rintro e w1 ⟨rfl, hb1, hlt1, hS1⟩
      replace hb1 : Below w0.heap.size w0 w1 := (below_drewN (Below.refl _ _) q).trans hb1
      replace hlt1 : w0.heap.size < w1.heap.size := hlt1
      replace hS1 : StepsAt w1 w0.heap.size 0 ss := hS1
      obtain ⟨B, hB⟩ : ∃ B, B = w0.heap.size := ⟨_, rfl⟩
      have e0 : (w0.drewN q).heap.size = B := hB.symm
      rw [e0]
      rw [← hB] at hlt1 hS1
      have HB : Hid (B = w0.heap.size) := hB
      clear hB e0 h
      go_wp2_with fail
      refine (new_any w1).mono ?_
      rintro e w2 ⟨rfl, hw2⟩
      have hts : IsTs w2 (w1.heap.size + 1) w1.heap.size 0 (filled (ss.take 0)) := by
        rw [hw2]
        exact ⟨by simp [go_sem], by simp [go_sem], by simp [go_sem], by omega, (World.ownsMap_made w1 Try.prog 9 contentElem).alloc _⟩
      have hb2 : Below w0.heap.size w0 w2 := by rw [hw2]; exact (hb1.alloc (by have := hb1.size; omega) _).alloc (by have := hb1.size; simp; omega) _
      have hS2 : StepsAt w2 B 0 ss := hS1.same (by rw [hw2, Below.heap_alloc _ _ _ (by simp; omega), Below.heap_alloc _ _ _ hlt1])
      obtain ⟨bf, hbf⟩ : ∃ bf, bf = w1.heap.size := ⟨_, rfl⟩
      rw [← hbf] at hts hlt1 ⊢
      clear hw2 hbf hb1 hS1
      go_wp2_with fail
      -- forward
      go_loopw [6] (fun i wr => ∃ k : Nat, k ≤ len ∧ i = .int .i64 k ∧ IsTs wr (bf + 1) bf k (filled (ss.take k)) ∧ StepsAt wr B 0 ss ∧ Below w0.heap.size w0 wr) (fun i _ => len - (intOf i).toNat)
      case atStart => exact ⟨0, Nat.zero_le _, rfl, hts, hS2, hb2⟩
      case round =>
        obtain ⟨k, hk, rfl, hts', hS', hb'⟩ := hrel
        clear hts hS2 hb2
        by_cases hlt : k < len
        · have hk' : k < ss.length := by rw [HL.out]; exact hlt
          obtain ⟨s, hs⟩ : ∃ s, ss[k]? = some s := ⟨_, List.getElem?_eq_getElem hk'⟩
          obtain ⟨⟨c0, c1, c2, c3, c4⟩, z0, z1⟩ := hS' k s hs
          simp only [Nat.zero_add] at c0 c1 c2 c3 c4
          have hBlt : B < wr.heap.size := World.block_lt_of_cell? _ _ c0
          have i0 : (0 : Int) ≤ (k : Int) := by omega
          have i1 : (k : Int) < (len : Int) := by omega
          have HD : Hid (filled (ss.take (k + 1)) = (filled (ss.take k)).put s.key s.datum) := filled_take ss k s hs
          have hkz : k < maxLen := by unfold maxLen; omega
          clear hs hk' z1
          go_wp2_with fail
          go_region_held3 (fun w' => w'.cell? ⟨B, k * 5, none⟩ = some (.string s.path) ∧ w'.cell? ⟨B, k * 5 + 1, none⟩ = some (.string s.name) ∧ w'.cell? ⟨B, k * 5 + 2, none⟩ = some (.int .i64 s.size) ∧ w'.cell? ⟨B, k * 5 + 3, none⟩ = some (.int .i64 s.pl) ∧ w'.cell? ⟨B, k * 5 + 4, none⟩ = some (.int .i64 s.files)) (go_keep)
            (first
              | (go_at_call 10; refine (content_any s.path s.name s.size s.pl s.files _).mono ?_; rintro e w' ⟨rfl, rfl⟩)
              | (go_at_call 9; refine (zzput_any (bf + 1) bf k _ s.path s.name s.size s.pl s.files _ ((hts'.drew.alloc _).alloc _) hkz z0).mono ?_; rintro e w' ⟨rfl, h1, h2⟩; have hcB : ∀ o, w'.cell? ⟨B, o, none⟩ = wr.cell? ⟨B, o, none⟩ := (fun o => (h2.cell (p := ⟨B, o, none⟩) (by simp; omega) (by simp; omega) (by simp; omega)).trans (by simp [go_sem, hBlt, Nat.lt_succ_of_lt hBlt]))))
          clear hcB
          have hT : Touched wr w' (bf + 1) bf := ((((Touched.refl wr (bf + 1) bf).drew).alloc _).alloc _).trans h2
          have hts1 : IsTs w' (bf + 1) bf (k + 1) (filled (ss.take (k + 1))) := by rw [HD.out]; exact h1
          have hS1 : StepsAt w' B 0 ss := hS'.same (hT.block B hBlt (by omega) (by omega))
          have hb1 : Below w0.heap.size w0 w' := hb'.trans (hT.below hb'.size (by have := HB.out; omega) (by have := HB.out; omega))
          clear h1 h2 hT
          go_wp2
          go_roundw
          case rel => exact ⟨k + 1, by omega, by go_num, hts1, hS1, hb1⟩
          case measure => simp [intOf]; omega
        · obtain rfl : len = k := by omega
          have hts2 : IsTs wr (bf + 1) bf len (filled ss) := by rw [List.take_of_length_le (by rw [HL.out]; exact Nat.le_refl _)] at hts'; exact hts'
          clear hts'
          go_wp2_with fail
          refine (new_any wr).mono ?_
          rintro e w3 ⟨rfl, hw3⟩
          have hblo : Below wr.heap.size wr w3 := by rw [hw3]; exact ((Below.refl _ _).alloc (Nat.le_refl _) _).alloc (by simp) _
          have htr : IsTs w3 (wr.heap.size + 1) wr.heap.size (len - len) (filled ((ss.drop len).reverse)) := by
            have : filled ((ss.drop len).reverse) = .map [] := by rw [List.drop_eq_nil_of_le (by rw [HL.out]; exact Nat.le_refl _)]; rfl
            rw [hw3, this]
            exact ⟨by simp [go_sem], by simp [go_sem], by simp [go_sem], by omega, ((World.ownsMap_made wr Try.prog 9 contentElem).alloc _).mono (by omega)⟩
          have htf : IsTs w3 (bf + 1) bf len (filled ss) := hts2.below hblo
          have hltf := hts2.lt
          have hS3 : StepsAt w3 B 0 ss := hS'.same (hblo.block B (by omega))
          have hb3 : Below w0.heap.size w0 w3 := hb'.trans (hblo.mono hb'.size)
          have hwb : w0.heap.size ≤ wr.heap.size := hb'.size
          obtain ⟨br, hbr⟩ : ∃ br, br = wr.heap.size := ⟨_, rfl⟩
          rw [← hbr] at htr hltf hwb ⊢
          clear hw3 hbr hts2 hS' hb' hblo
          obtain ⟨wo, hwo⟩ : ∃ wo : World, wo = wr := ⟨_, rfl⟩
          subst hwo
          go_wp2_with fail
          -- backward
          go_loopw [8] (fun i wr => ∃ m : Nat, m ≤ len ∧ i = .int .i64 ((m : Int) - 1) ∧ IsTs wr (bf + 1) bf len (filled ss) ∧ IsTs wr (br + 1) br (len - m) (filled ((ss.drop m).reverse)) ∧ StepsAt wr B 0 ss ∧ Below w0.heap.size w0 wr) (fun i _ => (intOf i + 1).toNat)
          case atStart => exact ⟨len, Nat.le_refl _, rfl, htf, htr, hS3, hb3⟩
          case round =>
            clear htf htr hS3 hb3
            obtain ⟨m, hm, rfl, htf, htr, hS', hb'⟩ := hrel
            rcases Nat.eq_zero_or_pos m with hm0 | hm0
            · subst hm0
              have hd : Distinct ss := HDi.out
              rw [List.drop_zero, Nat.sub_zero] at htr
              have hlF : ∀ ty, (Builtin.len_ #[34] ty #[.map (some bf)]).run Try.prog wr = .ok (.int .i64 len) wr := fun ty => by
                have := htf.own.len Try.underlying34 ty
                rw [hd.size, HL.out] at this
                exact this
              have hlR : ∀ ty, (Builtin.len_ #[34] ty #[.map (some br)]).run Try.prog wr = .ok (.int .i64 len) wr := fun ty => by
                have := htr.own.len Try.underlying34 ty
                rw [hd.reverse.size, List.length_reverse, HL.out] at this
                exact this
              have e1 : (((0 : Nat) : Int) - 1) = -1 := rfl
              rw [e1]
              clear e1 hd
              go_wp2_with fail
              refine (byPath_any (bf + 1) bf wr htf.c2).mono ?_
              rintro e wq ⟨rfl, hwq⟩
              rw [hwq]
              clear hwq
              go_wp2_with fail
              refine (byPath_any (br + 1) br wr htr.c2).mono ?_
              rintro e wq ⟨rfl, hwq⟩
              rw [hwq]
              clear hwq
              obtain ⟨wx, hwx⟩ : ∃ wx : World, wx = wr := ⟨_, rfl⟩
              subst hwx
              go_wp2_with fail
              clear hlF hlR
              go_loopw [11] (fun i wr => ∃ k : Nat, k ≤ len ∧ i = .int .i64 k ∧ IsTs wr (bf + 1) bf len (filled ss) ∧ IsTs wr (br + 1) br len (filled ss.reverse) ∧ StepsAt wr B 0 ss ∧ Below w0.heap.size w0 wr) (fun i _ => len - (intOf i).toNat)
              case atStart => exact ⟨0, Nat.zero_le _, rfl, htf, htr, hS', hb'⟩
              case round =>
                clear htf htr hS' hb'
                obtain ⟨k, hk, rfl, htf, htr, hS', hb'⟩ := hrel
                by_cases hlt : k < len
                · have hk' : k < ss.length := by rw [HL.out]; exact hlt
                  obtain ⟨s, hs⟩ : ∃ s, ss[k]? = some s := ⟨_, List.getElem?_eq_getElem hk'⟩
                  obtain ⟨⟨c0, c1, c2, c3, c4⟩, z0, z1⟩ := hS' k s hs
                  simp only [Nat.zero_add] at c0 c1 c2 c3 c4
                  have hBlt : B < wr.heap.size := World.block_lt_of_cell? _ _ c0
                  have hB1 : B < wr.heap.size + 1 := by omega
                  have hB2 : B < wr.heap.size + 1 + 1 := by omega
                  have hB3 : B < wr.heap.size + 1 + 1 + 1 := by omega
                  have i0 : (0 : Int) ≤ (k : Int) := by omega
                  have i1 : (k : Int) < (len : Int) := by omega
                  have hd : Distinct ss := HDi.out
                  have fA := fun z => (hd.at (List.mem_of_getElem? hs) z).1
                  have fH := (hd.at (List.mem_of_getElem? hs) (.map [])).2
                  have rA := fun z => (hd.reverse.at (List.mem_reverse.2 (List.mem_of_getElem? hs)) z).1
                  have rH := (hd.reverse.at (List.mem_reverse.2 (List.mem_of_getElem? hs)) (.map [])).2
                  have oF := htf.own
                  have oR := htr.own
                  have R : Hid (∀ w', Below wr.heap.size wr w' → IsTs w' (bf + 1) bf len (filled ss) ∧ IsTs w' (br + 1) br len (filled ss.reverse) ∧ StepsAt w' B 0 ss ∧ Below w0.heap.size w0 w') := fun w' hb => ⟨htf.below hb, htr.below hb, hS'.same (hb.block B hBlt), hb'.trans (hb.mono hb'.size)⟩
                  clear hd hs hk' z1 htf htr hS' hb'
                  go_wp2_with (first
                    | (at_lookup; refine wpList_lookup_content _ rfl _ _ rfl bf len (filled ss) rfl oF s s rfl z0 fA fH ?_)
                    | (at_lookup; refine wpList_lookup_content _ rfl _ _ rfl br len (filled ss.reverse) rfl (oR.alloc _) s s rfl z0 rA rH ?_))
                  clear fA fH rA rH oF oR
                  go_region_held3 (fun w' => w'.cell? ⟨wr.heap.size, 0, none⟩ = some (.string s.name) ∧ w'.cell? ⟨wr.heap.size, 1, none⟩ = some (.int .i64 s.size) ∧ w'.cell? ⟨wr.heap.size, 2, none⟩ = some (.int .i64 s.pl) ∧ w'.cell? ⟨wr.heap.size, 3, none⟩ = some (.int .i64 s.files) ∧
                      w'.cell? ⟨wr.heap.size + 1, 0, none⟩ = some (.string s.name) ∧ w'.cell? ⟨wr.heap.size + 1, 1, none⟩ = some (.int .i64 s.size) ∧ w'.cell? ⟨wr.heap.size + 1, 2, none⟩ = some (.int .i64 s.pl) ∧ w'.cell? ⟨wr.heap.size + 1, 3, none⟩ = some (.int .i64 s.files) ∧
                      w'.cell? ⟨B, k * 5, none⟩ = some (.string s.path) ∧ w'.cell? ⟨B, k * 5 + 1, none⟩ = some (.string s.name) ∧ w'.cell? ⟨B, k * 5 + 2, none⟩ = some (.int .i64 s.size) ∧ w'.cell? ⟨B, k * 5 + 3, none⟩ = some (.int .i64 s.pl) ∧ w'.cell? ⟨B, k * 5 + 4, none⟩ = some (.int .i64 s.files)) (simp [go_sem, c0, c1, c2, c3, c4, hBlt, hB1, hB2, hB3])
                    (first | (go_at_call 10; refine (content_any s.path s.name s.size s.pl s.files _).mono ?_; rintro e w' ⟨rfl, rfl⟩))
                  go_wp2
                  go_roundw
                  case rel =>
                    obtain ⟨r1, r2, r3, r4⟩ := R.out _ ((((((Below.refl wr.heap.size wr).alloc (Nat.le_refl _) (.cells #[.string s.name, .int .i64 s.size, .int .i64 s.pl, .int .i64 s.files] 32)).alloc (by simp) (.cells #[.string s.name, .int .i64 s.size, .int .i64 s.pl, .int .i64 s.files] 32)).alloc (by simp; omega) (.cells #[.string s.path, .string s.name, .int .i64 s.size, .int .i64 s.pl, .int .i64 s.files] 30)).alloc (by simp; omega) (.cells #[.string s.name, .int .i64 s.size, .int .i64 s.pl, .int .i64 s.files] 32)).drew)
                    exact ⟨k + 1, by omega, by go_num, r1, r2, r3, r4⟩
                  case measure => simp [intOf]; omega
                · go_wp2
                  go_ret
                  exact ⟨rfl, hb'⟩
            · obtain ⟨k, rfl⟩ : ∃ k, m = k + 1 := ⟨m - 1, by omega⟩
              have ek : (((k + 1 : Nat) : Int) - 1) = (k : Int) := by omega
              rw [ek]
              clear ek
              have hk' : k < ss.length := by rw [HL.out]; omega
              obtain ⟨s, hs⟩ : ∃ s, ss[k]? = some s := ⟨_, List.getElem?_eq_getElem hk'⟩
              obtain ⟨⟨c0, c1, c2, c3, c4⟩, z0, z1⟩ := hS' k s hs
              simp only [Nat.zero_add] at c0 c1 c2 c3 c4
              have hBlt : B < wr.heap.size := World.block_lt_of_cell? _ _ c0
              have i0 : (0 : Int) ≤ (k : Int) := by omega
              have i1 : (k : Int) < (len : Int) := by omega
              have HD : Hid (filled ((ss.drop k).reverse) = (filled ((ss.drop (k + 1)).reverse)).put s.key s.datum) := filled_rev ss k s hs
              have hkz : len - (k + 1) < maxLen := by unfold maxLen; omega
              have EN : Hid (len - (k + 1) + 1 = len - k) := (by omega : len - (k + 1) + 1 = len - k)
              clear hs hk' z1
              go_wp2_with fail
              go_region_held3 (fun w' => w'.cell? ⟨B, k * 5, none⟩ = some (.string s.path) ∧ w'.cell? ⟨B, k * 5 + 1, none⟩ = some (.string s.name) ∧ w'.cell? ⟨B, k * 5 + 2, none⟩ = some (.int .i64 s.size) ∧ w'.cell? ⟨B, k * 5 + 3, none⟩ = some (.int .i64 s.pl) ∧ w'.cell? ⟨B, k * 5 + 4, none⟩ = some (.int .i64 s.files)) (go_keep)
                (first
                  | (go_at_call 10; refine (content_any s.path s.name s.size s.pl s.files _).mono ?_; rintro e w' ⟨rfl, rfl⟩)
                  | (go_at_call 9; refine (zzput_any (br + 1) br (len - (k + 1)) _ s.path s.name s.size s.pl s.files _ ((htr.drew.alloc _).alloc _) hkz z0).mono ?_; rintro e w' ⟨rfl, h1, h2⟩; have hcB : ∀ o, w'.cell? ⟨B, o, none⟩ = wr.cell? ⟨B, o, none⟩ := (fun o => (h2.cell (p := ⟨B, o, none⟩) (by simp; omega) (by simp; omega) (by simp; omega)).trans (by simp [go_sem, hBlt, Nat.lt_succ_of_lt hBlt]))))
              clear hcB
              have hT : Touched wr w' (br + 1) br := ((((Touched.refl wr (br + 1) br).drew).alloc _).alloc _).trans h2
              have htr1 : IsTs w' (br + 1) br (len - k) (filled ((ss.drop k).reverse)) := by rw [HD.out, ← EN.out]; exact h1
              have htf1 : IsTs w' (bf + 1) bf len (filled ss) := htf.touched hT (by omega) (by omega) (by omega) (by omega)
              have hS1 : StepsAt w' B 0 ss := hS'.same (hT.block B hBlt (by omega) (by omega))
              have hb1 : Below w0.heap.size w0 w' := hb'.trans (hT.below hb'.size (by omega) (by omega))
              clear h1 h2 hT
              go_wp2
              go_roundw
              case rel => exact ⟨k, by omega, rfl, htf1, htr1, hS1, hb1⟩
              case measure => simp [intOf]
end Go.Proofs.Qxb6604592a
