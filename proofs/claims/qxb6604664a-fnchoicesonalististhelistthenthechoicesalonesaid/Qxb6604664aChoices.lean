import Derived.Test.Qxb6604664aPlain
namespace Go.Proofs.Qxb6604664a
open Go.RowKit Go.Maps

theorem cell_six_new (w : World) (t : TypeId) (x0 x1 x2 x3 x4 x5 : Value) : ∀ j u, [x0, x1, x2, x3, x4, x5][j]? = some u → (w.alloc (.cells #[x0, x1, x2, x3, x4, x5] t)).cell? ((⟨w.heap.size, 0, none⟩ : Addr).add j) = some u := by
  intro j u hu
  rw [show (⟨w.heap.size, 0, none⟩ : Addr).add j = ⟨w.heap.size, j, none⟩ by unfold Addr.add; split <;> simp_all]
  simp only [World.cell?_alloc_at _ _ _ _ rfl]
  simpa using hu

/-- What the call is told of its map of fields: at the state's selectors 1 and 2 it holds the slices of V 1 and V 2. -/
structure Given (w : World) (bm : Nat) (st : ByteArray) (V : Nat → List Pr) (A : Nat → Option Addr) (c : Nat → Nat) : Prop where
  look : ∃ (nn : Nat) (D : DataW Value), w.ownsMap Try.prog 39 heldElem bm nn D ∧ ∀ k : Nat, k = 1 ∨ k = 2 → ∃ kl, keyOf Try.prog 39 (.agg #[.string st, .int .i64 (k : Int)]) = some kl ∧ D.atKey kl (.held (.slice none 0 0)) = .held (.slice (A k) (V k).length (c k))
  at_ : ∀ k, k = 1 ∨ k = 2 → SliceOf w (A k) (V k).length 2 (rowP (V k))

theorem Given.below {w w' : World} {bm : Nat} {st : ByteArray} {V : Nat → List Pr} {A : Nat → Option Addr} {c : Nat → Nat} (h : Given w bm st V A c) (hb : Below w.heap.size w w') : Given w' bm st V A c := by
  obtain ⟨⟨nn, D, hown, hk⟩, hs⟩ := h
  exact ⟨⟨nn, D, hown.kept (row := none) ⟨hb.os, hb.tape, hb.output, hb.size, fun i hi _ => hb.block i hi⟩ (by simp), hk⟩, fun k hk => (hs k hk).below hb⟩

set_option maxRecDepth 20000 in
set_option maxHeartbeats 2000000 in
theorem choices_any (s : Sl) (bm : Nat) (V : Nat → List Pr) (A : Nat → Option Addr) (c : Nat → Nat) (a : Option Addr) (n : Nat) (ts : List Sl) (w : World) (hG : Given w bm s.a.v V A c) (hV : ∀ k, k = 1 ∨ k = 2 → (V k).length ≤ 4096) (hto : SliceOf w a n 6 (rowS ts)) (hn : n ≤ 4096) :
    Calls Try.prog 17 #[.agg #[.string s.a.k, .string s.a.v, .string s.b.k, .string s.b.v, .string s.c.k, .string s.c.v], .map (some bm), .slice a n n] w fun e w' =>
      ∃ g cap, e = .returned (.slice (some ⟨g, 0, none⟩) (n + (upTo s V 2).length) cap) ∧ w'.ownsRow w.heap.size 44 6 (.slice (some ⟨g, 0, none⟩) (n + (upTo s V 2).length) cap) (n + (upTo s V 2).length) (rowS (ts ++ upTo s V 2)) ∧ Below w.heap.size w w' := by
  obtain ⟨w1, hw1⟩ : ∃ w1, w1 = w.alloc (.cells #[.string s.a.k, .string s.a.v, .string s.b.k, .string s.b.v, .string s.c.k, .string s.c.v] 44) := ⟨_, rfl⟩
  have hb1 : Below w.heap.size w w1 := by rw [hw1]; exact below_al (Below.refl _ _) _
  have b0 : w1.cell? ⟨w.heap.size, 0, none⟩ = some (.string s.a.k) := by rw [hw1]; simp [go_sem]
  have b1 : w1.cell? ⟨w.heap.size, 1, none⟩ = some (.string s.a.v) := by rw [hw1]; simp [go_sem]
  have b2 : w1.cell? ⟨w.heap.size, 2, none⟩ = some (.string s.b.k) := by rw [hw1]; simp [go_sem]
  have b3 : w1.cell? ⟨w.heap.size, 3, none⟩ = some (.string s.b.v) := by rw [hw1]; simp [go_sem]
  have b4 : w1.cell? ⟨w.heap.size, 4, none⟩ = some (.string s.c.k) := by rw [hw1]; simp [go_sem]
  have b5 : w1.cell? ⟨w.heap.size, 5, none⟩ = some (.string s.c.v) := by rw [hw1]; simp [go_sem]
  have hsz : w1.heap.size = w.heap.size + 1 := by rw [hw1]; simp
  replace hG := hG.below hb1
  replace hto := hto.below hb1
  -- the first append
  have hb2 : Below w1.heap.size w1 (w1.alloc (.cells #[.string s.a.k, .string s.a.v, .string s.b.k, .string s.b.v, .string s.c.k, .string s.c.v] 44)) := below_al (Below.refl _ _) _
  have hto2 := hto.below hb2
  have hnews := cell_six_new w1 44 (.string s.a.k) (.string s.a.v) (.string s.b.k) (.string s.b.v) (.string s.c.k) (.string s.c.v)
  have hsz2 : (w1.alloc (.cells #[.string s.a.k, .string s.a.v, .string s.b.k, .string s.b.v, .string s.c.k, .string s.c.v] 44)).heap.size = w.heap.size + 1 + 1 := by simp [hsz]
  have hB2 : w1.heap.size ≤ (w1.alloc (.cells #[.string s.a.k, .string s.a.v, .string s.b.k, .string s.b.v, .string s.c.k, .string s.c.v] 44)).heap.size := by simp
  rw [hw1] at hto2 hnews hsz2 hB2
  rw [show (w.alloc (.cells #[.string s.a.k, .string s.a.v, .string s.b.k, .string s.b.v, .string s.c.k, .string s.c.v] 44)).heap.size = w.heap.size + 1 by simp] at hnews hB2
  have hb3' : Below (w.heap.size + 1) w1 (w1.alloc (.cells #[.string s.a.k, .string s.a.v, .string s.b.k, .string s.b.v, .string s.c.k, .string s.c.v] 44)) := (Below.refl _ _).alloc (by omega) _
  rw [hw1] at hb3'
  have HB3 : Hid (Below (w.heap.size + 1) (w.alloc (.cells #[.string s.a.k, .string s.a.v, .string s.b.k, .string s.b.v, .string s.c.k, .string s.c.v] 44)) ((w.alloc (.cells #[.string s.a.k, .string s.a.v, .string s.b.k, .string s.b.v, .string s.c.k, .string s.c.v] 44)).alloc (.cells #[.string s.a.k, .string s.a.v, .string s.b.k, .string s.b.v, .string s.c.k, .string s.c.v] 44))) := hb3'
  have HW1 : Hid (w1 = w.alloc (.cells #[.string s.a.k, .string s.a.v, .string s.b.k, .string s.b.v, .string s.c.k, .string s.c.v] 44)) := hw1
  have HSZ : Hid (w1.heap.size = w.heap.size + 1) := hsz
  clear hb3' hw1 hsz hb2 hto
  go_enter Try.func17, Try.ntmps17
  go_wp2_with (at_builtin; refine wpList_append_first _ rfl _ _ rfl (w.heap.size + 1) (w.heap.size + 1 + 1) a n (rowS ts) rfl hto2 ⟨w.heap.size + 1, 0, none⟩ 1 s.cells rfl rfl hnews (by omega) hB2 hsz2 ?_; intro cap0 w3 hown3 hb3 hs3)
  clear hto2 hnews hsz2 hB2 hs3
  replace hb3 : Below (w.heap.size + 1) w1 w3 := by rw [HW1.out]; exact HB3.out.trans (hb3.mono (by omega))
  have hst : rowS (ts ++ [s]) = rowS ts ++ s.cells := by rw [rowS_append]; simp [rowS]
  rw [← hst] at hown3
  clear hst HB3 HW1
  go_loopw [2, 8] (fun t i wr => ∃ (j g cap tot : Nat) (L : List Sl), j ≤ 2 ∧ i = .int .i64 ((j + 1 : Nat) : Int) ∧ t = .slice (some ⟨g, 0, none⟩) tot cap ∧ Hid (L = upTo s V j) ∧ Hid (tot = n + L.length) ∧ wr.ownsRow (w.heap.size + 1) 44 6 (.slice (some ⟨g, 0, none⟩) tot cap) tot (rowS (ts ++ L)) ∧ Below (w.heap.size + 1) w1 wr) (fun _ i _ => 3 - (intOf i).toNat)
  case atStart => exact ⟨0, _, _, _, [s], by omega, rfl, rfl, rfl, rfl, hown3, hb3⟩
  case round =>
    clear hown3 hb3
    obtain ⟨j, g, cap, tot, L, hj, rfl, rfl, HLj, HT, hown, hb⟩ := hrel
    have hj3 : j = 0 ∨ j = 1 ∨ j = 2 := by omega
    have hcb : ∀ o, wr.cell? ⟨w.heap.size, o, none⟩ = w1.cell? ⟨w.heap.size, o, none⟩ := fun o => hb.cell (p := ⟨w.heap.size, o, none⟩) (by simp)
    have d1 : wr.cell? ⟨w.heap.size, 1, none⟩ = some (.string s.a.v) := (hcb 1).trans b1
    have d3 : wr.cell? ⟨w.heap.size, 3, none⟩ = some (.string s.b.v) := (hcb 3).trans b3
    have d5 : wr.cell? ⟨w.heap.size, 5, none⟩ = some (.string s.c.v) := (hcb 5).trans b5
    have hGr : Given wr bm s.a.v V A c := hG.below (by rw [HSZ.out]; exact hb)
    clear hcb
    rcases hj3 with rfl | rfl | rfl
    · obtain ⟨⟨nn, D, hownM, hk⟩, hAt⟩ := hGr
      obtain ⟨kl, hkey, hat⟩ := hk 1 (.inl rfl)
      have hSv := hAt 1 (.inl rfl)
      have e1 : (((0 + 1 : Nat)) : Int) = 1 := rfl
      have hVl := hV 1 (.inl rfl)
      have HLl : Hid (L.length ≤ 4096) := (by rw [HLj.out]; simp [upTo] : L.length ≤ 4096)
      rw [e1]
      clear e1 hk hAt
      by_cases hE : s.b.v.toList = []
      · by_cases hZ : (V 1).length = 0
        · have HS : Hid (L = upTo s V (0 + 1)) := HLj.out.trans (upTo_skip (k := 0) (.inr hZ)).symm
          have hZ' : (((V 1).length : Int) == 0) = true := by rw [hZ]; rfl
          clear hZ
          go_wp2_with (at_lookup; refine wpList_lookup_held _ rfl _ _ rfl bm nn D rfl hownM _ kl rfl hkey _ hat ?_)
          go_roundw
          case rel => exact ⟨0 + 1, g, cap, tot, L, by omega, rfl, rfl, HS, HT, hown, hb⟩
          case measure => simp [intOf]
        · obtain ⟨vb, vo, hA, hcv⟩ := hSv.cells (by omega)
          rw [hA] at hat
          have HU : Hid (upTo s V (0 + 1) = (V 1).flatMap (fun f => L.map (fun c => setK 1 c f))) := by rw [HLj.out]; exact upTo_use (k := 0) hE hZ
          have HPos : Hid (1 ≤ L.length) := by rw [HLj.out]; exact upTo_pos s V 0
          obtain ⟨lv, hlv⟩ : ∃ lv, lv = (V 1).length := ⟨_, rfl⟩
          rw [← hlv] at hat hVl hZ
          have HLV : Hid (lv = (V 1).length) := hlv
          have hZ' : ((lv : Int) == 0) = false := by simpa using hZ
          have hcvr : ∀ j v, (rowP (V 1))[j]? = some v → w1.cell? ⟨vb, vo + j, none⟩ = some v := fun j v hv => by
            have h1 := hcv j v hv
            have := (hG.at_ 1 (.inl rfl)).cells (by rw [← hlv]; omega)
            obtain ⟨b', o', hA', hc'⟩ := this
            rw [hA] at hA'
            cases hA'
            exact hc' j v hv
          have hvb : vb < w.heap.size + 1 := by
            obtain ⟨u, hu⟩ : ∃ u, (rowP (V 1))[0]? = some u := ⟨_, List.getElem?_eq_getElem (by rw [rowP_length, ← hlv]; omega)⟩
            have := World.block_lt_of_cell? _ _ (hcvr 0 u hu)
            rw [HSZ.out] at this
            exact this
          have HCV : Hid (∀ j v, (rowP (V 1))[j]? = some v → w1.cell? ⟨vb, vo + j, none⟩ = some v) := hcvr
          clear hlv hA hcv hSv hcvr
          go_wp2_with (at_lookup; refine wpList_lookup_held _ rfl _ _ rfl bm nn D rfl hownM _ kl rfl hkey _ hat ?_)
          obtain ⟨wo, hwo⟩ : ∃ wo : World, wo = wr := ⟨_, rfl⟩
          subst hwo
          go_loopw [2, 46] (fun t ix wr => ∃ (i g cap tot2 : Nat), i ≤ lv ∧ ix = .int .i64 i ∧ t = .slice (some ⟨g, 0, none⟩) tot2 cap ∧ Hid (tot2 = tot + i * L.length) ∧ wr.ownsRow (w.heap.size + 1) 44 6 (.slice (some ⟨g, 0, none⟩) tot2 cap) tot2 (rowS (ts ++ (L ++ part 1 (V 1) L i))) ∧ Below (w.heap.size + 1) w1 wr) (fun _ i _ => lv - (intOf i).toNat)
          case atStart => exact ⟨0, g, cap, tot, by omega, rfl, rfl, (by omega : tot = tot + 0 * L.length), by simpa [part] using hown, hb⟩
          case round =>
            clear hown hb hownM hkey hat d1 d3 d5
            obtain ⟨i, g, cap, tot2, hi, rfl, rfl, HT2, hown, hb⟩ := hrel
            by_cases hlt : i < lv
            · obtain ⟨f, hf⟩ : ∃ f, (V 1)[i]? = some f := ⟨_, List.getElem?_eq_getElem (by rw [← HLV.out]; exact hlt)⟩
              have v0 := HCV.out _ _ (rowP_get (V 1) i 0 f hf (by omega))
              have v1 := HCV.out _ _ (rowP_get (V 1) i 1 f hf (by omega))
              rw [← hb.cell (p := ⟨vb, _, none⟩) hvb] at v0 v1
              rw [← Nat.add_assoc] at v0 v1
              rw [Nat.add_zero] at v0
              have HPS : Hid (part 1 (V 1) L (i + 1) = part 1 (V 1) L i ++ L.map (fun c => setK 1 c f)) := part_succ 1 (V 1) L i f hf
              have i0 : (0 : Int) ≤ (i : Int) := by omega
              have i1 : (i : Int) < (lv : Int) := by omega
              have hcap : tot2 ≤ cap ∧ cap ≤ maxLen := by
                rcases hown.2 with ⟨e, _⟩ | ⟨_, _, _, e, _, _, q1, q2, _⟩
                · cases e
                · cases e; exact ⟨q1, q2⟩
              have hm := HPos.out
              have hm2 := HLl.out
              have ht := HT.out
              have ht2 := HT2.out
              have htle : tot ≤ tot2 := by rw [ht2]; exact Nat.le_add_right _ _
              have n0 : (0 : Int) ≤ (n : Int) := by omega
              have n1 : (n : Int) ≤ (tot : Int) := by omega
              have n2 : (tot : Int) ≤ (cap : Int) := by omega
              have n3 : (n : Int) < (cap : Int) := by omega
              have n4 : (cap : Int) ≤ 9223372036854775807 := by have := hcap.2; unfold maxLen at this; omega
              have n5 : (tot : Int) ≤ (tot2 : Int) := by omega
              have n6 : (tot2 : Int) ≤ (cap : Int) := by omega
              clear hf hcap hm hm2 ht ht2
              have hgb : w.heap.size + 1 ≤ wr.heap.size := by have := hb.size; rw [HSZ.out] at this; exact this
              have hgl : g < wr.heap.size := by
                rcases hown.2 with ⟨e, _⟩ | ⟨_, _, _, e, _, hgg, _⟩
                · cases e
                · cases e; exact (Array.getElem?_eq_some_iff.1 hgg).1
              have st3 : L3 (w.heap.size + 1) w1 1 (V 1) L ts n i tot2 g wr.heap.size f 0 g cap tot2 (wr.alloc (.cells #[.string f.k, .string f.v] 42)) := by
                refine ⟨rfl, ?_, hb.alloc hgb _, fun o v hv => ?_, by simp [go_sem], by simp [go_sem], by omega, by simp; omega⟩
                · simpa using hown.alloc (.cells #[.string f.k, .string f.v] 42)
                · have ho : o < L.length * 6 := by rw [← rowS_length]; exact (List.getElem?_eq_some_iff.1 hv).1
                  rw [World.cell?_alloc_past _ _ _ hgl, hown.cellAt _ (by have := HT.out; omega)]
                  have hsx : ts.length = n := by
                    have := hown.1
                    rw [rowS_length, List.length_append, List.length_append, part_length _ _ _ _ (by rw [← HLV.out]; omega), HT2.out, HT.out] at this
                    omega
                  rw [rowS_append, List.getElem?_append_right (by rw [rowS_length, hsx]; omega), rowS_length, hsx, rowS_append, Nat.add_sub_cancel_left, List.getElem?_append_left (by rw [rowS_length]; exact ho)]
                  exact hv
              go_wp2_with fail
              have em : tot - n = L.length := by have := HT.out; omega
              rw [em]
              clear em v0 v1 hown hb
              obtain ⟨wf, hwf⟩ : ∃ wf, wf = wr.alloc (.cells #[.string f.k, .string f.v] 42) := ⟨_, rfl⟩
              rw [← hwf] at st3 ⊢
              obtain ⟨fb, hfb⟩ : ∃ fb, fb = wr.heap.size := ⟨_, rfl⟩
              rw [← hfb] at st3 hgl ⊢
              clear hwf hfb hgb
              go_loopw [2, 55] (fun t ix wx => ∃ (x g1 cap1 tot3 : Nat), x ≤ L.length ∧ ix = .int .i64 x ∧ t = .slice (some ⟨g1, 0, none⟩) tot3 cap1 ∧ L3 (w.heap.size + 1) w1 1 (V 1) L ts n i tot2 g fb f x g1 cap1 tot3 wx) (fun _ ix _ => L.length - (intOf ix).toNat)
              case atStart => exact ⟨0, g, cap, tot2, Nat.zero_le _, rfl, rfl, st3⟩
              case round =>
                clear st3
                obtain ⟨x, g1, cap1, tot3, hx, rfl, rfl, st⟩ := hrel
                by_cases hxt : x < L.length
                · obtain ⟨y, hy⟩ : ∃ y, L[x]? = some y := ⟨_, List.getElem?_eq_getElem hxt⟩
                  have r0 := st.range _ _ (rowS_get L x 0 y hy (by omega))
                  have r1 := st.range _ _ (rowS_get L x 1 y hy (by omega))
                  have r2 := st.range _ _ (rowS_get L x 2 y hy (by omega))
                  have r3 := st.range _ _ (rowS_get L x 3 y hy (by omega))
                  have r4 := st.range _ _ (rowS_get L x 4 y hy (by omega))
                  have r5 := st.range _ _ (rowS_get L x 5 y hy (by omega))
                  rw [Nat.add_zero] at r0
                  rw [← Nat.add_assoc] at r1 r2 r3 r4 r5
                  have f0 := st.f0
                  have f1 := st.f1
                  have hfl : fb < wr.heap.size := World.block_lt_of_cell? _ _ f0
                  have j0 : (0 : Int) ≤ (x : Int) := by omega
                  have j1 : (x : Int) < (L.length : Int) := by omega
                  have hown2 := (st.own.alloc (.cells #[.string y.a.k, .string y.a.v, .string f.k, .string f.v, .string y.c.k, .string y.c.v] 44)).alloc (.cells #[.string y.a.k, .string y.a.v, .string f.k, .string f.v, .string y.c.k, .string y.c.v] 44)
                  have hnews := cell_six_new (wr.alloc (.cells #[.string y.a.k, .string y.a.v, .string f.k, .string f.v, .string y.c.k, .string y.c.v] 44)) 44 (.string y.a.k) (.string y.a.v) (.string f.k) (.string f.v) (.string y.c.k) (.string y.c.v)
                  rw [show (wr.alloc (.cells #[.string y.a.k, .string y.a.v, .string f.k, .string f.v, .string y.c.k, .string y.c.v] 44)).heap.size = wr.heap.size + 1 by simp] at hnews
                  have hstr : Strs [.string y.a.k, .string y.a.v, .string f.k, .string f.v, .string y.c.k, .string y.c.v] := strsS [setK 1 y f]
                  have hB2 : w.heap.size + 1 ≤ ((wr.alloc (.cells #[.string y.a.k, .string y.a.v, .string f.k, .string f.v, .string y.c.k, .string y.c.v] 44)).alloc (.cells #[.string y.a.k, .string y.a.v, .string f.k, .string f.v, .string y.c.k, .string y.c.v] 44)).heap.size := by have := st.base; simp; omega
                  have hle : tot3 ≤ 1000000000 := by
                    have h1 := st.tot
                    have h2 := HT2.out
                    have h3 := HT.out
                    have h4 := HLl.out
                    have h5 : i * L.length ≤ 4096 * 4096 := Nat.mul_le_mul (by omega) h4
                    omega
                  have hnb : n + L.length ≤ tot3 := by
                    have h1 := st.tot
                    have h3 := HT.out
                    omega
                  have HY : Hid (L[x]? = some y) := hy
                  clear hy
                  go_wp2_with (at_builtin; refine wpList_append_sel _ rfl _ _ rfl (w.heap.size + 1) g1 tot3 cap1 _ rfl hown2 ⟨wr.heap.size + 1, 0, none⟩ 1 [.string y.a.k, .string y.a.v, .string f.k, .string f.v, .string y.c.k, .string y.c.v] rfl rfl hnews hstr hle hB2 ?_; intro g2 cap2 w4 hown4 hgr4)
                  go_roundw
                  case rel => exact ⟨x + 1, g2, cap2, tot3 + 1, by omega, by go_num, rfl, st.next HY.out hown4 rfl hgr4 hnb⟩
                  case measure => simp [intOf]; omega
                · obtain rfl : x = L.length := by omega
                  go_wp2
                  go_roundw
                  case rel =>
                    refine ⟨i + 1, g1, cap1, tot3, by omega, by go_num, rfl, ?_, ?_, st.below⟩
                    · have h1 := st.tot
                      have h2 := HT2.out
                      show tot3 = tot + (i + 1) * L.length
                      rw [h1, h2, Nat.succ_mul]; omega
                    · rw [HPS.out]
                      have := st.own
                      rwa [List.take_of_length_le (Nat.le_refl _)] at this
                  case measure => simp [intOf]; omega
            · obtain rfl : lv = i := by omega
              have hcap : tot2 ≤ cap ∧ cap ≤ maxLen := by
                rcases hown.2 with ⟨e, _⟩ | ⟨_, _, _, e, _, _, q1, q2, _⟩
                · cases e
                · cases e; exact ⟨q1, q2⟩
              have ht := HT.out
              have ht2 := HT2.out
              have hpl : (part 1 (V 1) L lv).length = lv * L.length := part_length _ _ _ _ (by rw [← HLV.out]; exact Nat.le_refl _)
              have hsx : ts.length = n := by
                have := hown.1
                rw [rowS_length, List.length_append, List.length_append, hpl] at this
                omega
              have hmul : 1 ≤ lv * L.length := Nat.mul_pos (by omega) HPos.out
              have HROW : Hid ((rowS (ts ++ (L ++ part 1 (V 1) L lv))).take (n * 6) ++ (rowS (ts ++ (L ++ part 1 (V 1) L lv))).drop (tot * 6) = rowS (ts ++ part 1 (V 1) L lv)) := by
                rw [ht]
                exact cut_row ts L _ n hsx
              have HPA : Hid (part 1 (V 1) L lv = upTo s V (0 + 1)) := by
                rw [HU.out]
                exact part_all 1 (V 1) L lv (by rw [← HLV.out]; exact Nat.le_refl _)
              have HNT : Hid (n + (tot2 - tot) = n + (part 1 (V 1) L lv).length) := by
                rw [hpl]
                exact (by omega : n + (tot2 - tot) = n + lv * L.length)
              have n0 : (0 : Int) ≤ (n : Int) := by omega
              have n1 : (n : Int) ≤ (tot : Int) := by omega
              have n2 : (tot : Int) < (cap : Int) := by omega
              have n3 : (n : Int) < (cap : Int) := by omega
              have n4 : (cap : Int) ≤ 9223372036854775807 := by have := hcap.2; unfold maxLen at this; omega
              have n5 : (tot : Int) ≤ (tot2 : Int) := by omega
              have n6 : (tot2 : Int) ≤ (cap : Int) := by omega
              have n7 : (0 : Int) ≤ (tot : Int) := by omega
              have n8 : (n : Int) ≤ (cap : Int) := by omega
              have n9 : (n : Int) ≤ (tot2 : Int) := by omega
              have m1 : n ≤ tot := by omega
              have hct : ¬ cap = tot := by omega
              have m2 : tot ≤ tot2 := by omega
              have hownd : wr.drew.ownsRow (w.heap.size + 1) 44 6 (.slice (some ⟨g, 0, none⟩) tot2 cap) tot2 (rowS (ts ++ (L ++ part 1 (V 1) L lv))) := hown
              have hstr := strsS (ts ++ (L ++ part 1 (V 1) L lv))
              clear hcap ht ht2 hpl hsx hmul
              go_wp2_with fail
              go_region_held3 (fun _ => True) (trivial) ((refine step_append_cut rfl _ _ rfl (w.heap.size + 1) g n tot tot2 cap (cap - tot) _ (by rfl) (by rfl) hownd hstr m1 m2 ?_; intro w4 hown4 hb4))
              rw [HROW.out, HPA.out] at hown4
              have HNT' : Hid (n + (tot2 - tot) = n + (upTo s V (0 + 1)).length) := by rw [← HPA.out]; exact HNT.out
              have hb5 : Below (w.heap.size + 1) w1 w4 := hb.drew.trans hb4
              clear hb4
              go_wp2
              go_roundw
              case rel => exact ⟨0 + 1, g, cap, n + (tot2 - tot), upTo s V (0 + 1), by omega, rfl, rfl, rfl, HNT', hown4, hb5⟩
              case measure => simp [intOf]
      · have HS : Hid (L = upTo s V (0 + 1)) := HLj.out.trans (upTo_skip (k := 0) (.inl hE)).symm
        go_wp2_with (at_lookup; refine wpList_lookup_held _ rfl _ _ rfl bm nn D rfl hownM _ kl rfl hkey _ hat ?_)
        go_roundw
        case rel => exact ⟨0 + 1, g, cap, tot, L, by omega, rfl, rfl, HS, HT, hown, hb⟩
        case measure => simp [intOf]
    · obtain ⟨⟨nn, D, hownM, hk⟩, hAt⟩ := hGr
      obtain ⟨kl, hkey, hat⟩ := hk 2 (.inr rfl)
      have hSv := hAt 2 (.inr rfl)
      have e1 : (((1 + 1 : Nat)) : Int) = 2 := rfl
      have hVl := hV 2 (.inr rfl)
      have HLl : Hid (L.length ≤ 4096) := (by rw [HLj.out]; exact (upTo_len s V hV).1 : L.length ≤ 4096)
      rw [e1]
      clear e1 hk hAt
      by_cases hE : s.c.v.toList = []
      · by_cases hZ : (V 2).length = 0
        · have HS : Hid (L = upTo s V (1 + 1)) := HLj.out.trans (upTo_skip (k := 1) (.inr hZ)).symm
          have hZ' : (((V 2).length : Int) == 0) = true := by rw [hZ]; rfl
          clear hZ
          go_wp2_with (at_lookup; refine wpList_lookup_held _ rfl _ _ rfl bm nn D rfl hownM _ kl rfl hkey _ hat ?_)
          go_roundw
          case rel => exact ⟨1 + 1, g, cap, tot, L, by omega, rfl, rfl, HS, HT, hown, hb⟩
          case measure => simp [intOf]
        · obtain ⟨vb, vo, hA, hcv⟩ := hSv.cells (by omega)
          rw [hA] at hat
          have HU : Hid (upTo s V (1 + 1) = (V 2).flatMap (fun f => L.map (fun c => setK 2 c f))) := by rw [HLj.out]; exact upTo_use (k := 1) hE hZ
          have HPos : Hid (1 ≤ L.length) := by rw [HLj.out]; exact upTo_pos s V 1
          obtain ⟨lv, hlv⟩ : ∃ lv, lv = (V 2).length := ⟨_, rfl⟩
          rw [← hlv] at hat hVl hZ
          have HLV : Hid (lv = (V 2).length) := hlv
          have hZ' : ((lv : Int) == 0) = false := by simpa using hZ
          have hcvr : ∀ j v, (rowP (V 2))[j]? = some v → w1.cell? ⟨vb, vo + j, none⟩ = some v := fun j v hv => by
            have h1 := hcv j v hv
            have := (hG.at_ 2 (.inr rfl)).cells (by rw [← hlv]; omega)
            obtain ⟨b', o', hA', hc'⟩ := this
            rw [hA] at hA'
            cases hA'
            exact hc' j v hv
          have hvb : vb < w.heap.size + 1 := by
            obtain ⟨u, hu⟩ : ∃ u, (rowP (V 2))[0]? = some u := ⟨_, List.getElem?_eq_getElem (by rw [rowP_length, ← hlv]; omega)⟩
            have := World.block_lt_of_cell? _ _ (hcvr 0 u hu)
            rw [HSZ.out] at this
            exact this
          have HCV : Hid (∀ j v, (rowP (V 2))[j]? = some v → w1.cell? ⟨vb, vo + j, none⟩ = some v) := hcvr
          clear hlv hA hcv hSv hcvr
          go_wp2_with (at_lookup; refine wpList_lookup_held _ rfl _ _ rfl bm nn D rfl hownM _ kl rfl hkey _ hat ?_)
          obtain ⟨wo, hwo⟩ : ∃ wo : World, wo = wr := ⟨_, rfl⟩
          subst hwo
          go_loopw [2, 46] (fun t ix wr => ∃ (i g cap tot2 : Nat), i ≤ lv ∧ ix = .int .i64 i ∧ t = .slice (some ⟨g, 0, none⟩) tot2 cap ∧ Hid (tot2 = tot + i * L.length) ∧ wr.ownsRow (w.heap.size + 1) 44 6 (.slice (some ⟨g, 0, none⟩) tot2 cap) tot2 (rowS (ts ++ (L ++ part 2 (V 2) L i))) ∧ Below (w.heap.size + 1) w1 wr) (fun _ i _ => lv - (intOf i).toNat)
          case atStart => exact ⟨0, g, cap, tot, by omega, rfl, rfl, (by omega : tot = tot + 0 * L.length), by simpa [part] using hown, hb⟩
          case round =>
            clear hown hb hownM hkey hat d1 d3 d5
            obtain ⟨i, g, cap, tot2, hi, rfl, rfl, HT2, hown, hb⟩ := hrel
            by_cases hlt : i < lv
            · obtain ⟨f, hf⟩ : ∃ f, (V 2)[i]? = some f := ⟨_, List.getElem?_eq_getElem (by rw [← HLV.out]; exact hlt)⟩
              have v0 := HCV.out _ _ (rowP_get (V 2) i 0 f hf (by omega))
              have v1 := HCV.out _ _ (rowP_get (V 2) i 1 f hf (by omega))
              rw [← hb.cell (p := ⟨vb, _, none⟩) hvb] at v0 v1
              rw [← Nat.add_assoc] at v0 v1
              rw [Nat.add_zero] at v0
              have HPS : Hid (part 2 (V 2) L (i + 1) = part 2 (V 2) L i ++ L.map (fun c => setK 2 c f)) := part_succ 2 (V 2) L i f hf
              have i0 : (0 : Int) ≤ (i : Int) := by omega
              have i1 : (i : Int) < (lv : Int) := by omega
              have hcap : tot2 ≤ cap ∧ cap ≤ maxLen := by
                rcases hown.2 with ⟨e, _⟩ | ⟨_, _, _, e, _, _, q1, q2, _⟩
                · cases e
                · cases e; exact ⟨q1, q2⟩
              have hm := HPos.out
              have hm2 := HLl.out
              have ht := HT.out
              have ht2 := HT2.out
              have htle : tot ≤ tot2 := by rw [ht2]; exact Nat.le_add_right _ _
              have n0 : (0 : Int) ≤ (n : Int) := by omega
              have n1 : (n : Int) ≤ (tot : Int) := by omega
              have n2 : (tot : Int) ≤ (cap : Int) := by omega
              have n3 : (n : Int) < (cap : Int) := by omega
              have n4 : (cap : Int) ≤ 9223372036854775807 := by have := hcap.2; unfold maxLen at this; omega
              have n5 : (tot : Int) ≤ (tot2 : Int) := by omega
              have n6 : (tot2 : Int) ≤ (cap : Int) := by omega
              clear hf hcap hm hm2 ht ht2
              have hgb : w.heap.size + 1 ≤ wr.heap.size := by have := hb.size; rw [HSZ.out] at this; exact this
              have hgl : g < wr.heap.size := by
                rcases hown.2 with ⟨e, _⟩ | ⟨_, _, _, e, _, hgg, _⟩
                · cases e
                · cases e; exact (Array.getElem?_eq_some_iff.1 hgg).1
              have st3 : L3 (w.heap.size + 1) w1 2 (V 2) L ts n i tot2 g wr.heap.size f 0 g cap tot2 (wr.alloc (.cells #[.string f.k, .string f.v] 42)) := by
                refine ⟨rfl, ?_, hb.alloc hgb _, fun o v hv => ?_, by simp [go_sem], by simp [go_sem], by omega, by simp; omega⟩
                · simpa using hown.alloc (.cells #[.string f.k, .string f.v] 42)
                · have ho : o < L.length * 6 := by rw [← rowS_length]; exact (List.getElem?_eq_some_iff.1 hv).1
                  rw [World.cell?_alloc_past _ _ _ hgl, hown.cellAt _ (by have := HT.out; omega)]
                  have hsx : ts.length = n := by
                    have := hown.1
                    rw [rowS_length, List.length_append, List.length_append, part_length _ _ _ _ (by rw [← HLV.out]; omega), HT2.out, HT.out] at this
                    omega
                  rw [rowS_append, List.getElem?_append_right (by rw [rowS_length, hsx]; omega), rowS_length, hsx, rowS_append, Nat.add_sub_cancel_left, List.getElem?_append_left (by rw [rowS_length]; exact ho)]
                  exact hv
              go_wp2_with fail
              have em : tot - n = L.length := by have := HT.out; omega
              rw [em]
              clear em v0 v1 hown hb
              obtain ⟨wf, hwf⟩ : ∃ wf, wf = wr.alloc (.cells #[.string f.k, .string f.v] 42) := ⟨_, rfl⟩
              rw [← hwf] at st3 ⊢
              obtain ⟨fb, hfb⟩ : ∃ fb, fb = wr.heap.size := ⟨_, rfl⟩
              rw [← hfb] at st3 hgl ⊢
              clear hwf hfb hgb
              go_loopw [2, 55] (fun t ix wx => ∃ (x g1 cap1 tot3 : Nat), x ≤ L.length ∧ ix = .int .i64 x ∧ t = .slice (some ⟨g1, 0, none⟩) tot3 cap1 ∧ L3 (w.heap.size + 1) w1 2 (V 2) L ts n i tot2 g fb f x g1 cap1 tot3 wx) (fun _ ix _ => L.length - (intOf ix).toNat)
              case atStart => exact ⟨0, g, cap, tot2, Nat.zero_le _, rfl, rfl, st3⟩
              case round =>
                clear st3
                obtain ⟨x, g1, cap1, tot3, hx, rfl, rfl, st⟩ := hrel
                by_cases hxt : x < L.length
                · obtain ⟨y, hy⟩ : ∃ y, L[x]? = some y := ⟨_, List.getElem?_eq_getElem hxt⟩
                  have r0 := st.range _ _ (rowS_get L x 0 y hy (by omega))
                  have r1 := st.range _ _ (rowS_get L x 1 y hy (by omega))
                  have r2 := st.range _ _ (rowS_get L x 2 y hy (by omega))
                  have r3 := st.range _ _ (rowS_get L x 3 y hy (by omega))
                  have r4 := st.range _ _ (rowS_get L x 4 y hy (by omega))
                  have r5 := st.range _ _ (rowS_get L x 5 y hy (by omega))
                  rw [Nat.add_zero] at r0
                  rw [← Nat.add_assoc] at r1 r2 r3 r4 r5
                  have f0 := st.f0
                  have f1 := st.f1
                  have hfl : fb < wr.heap.size := World.block_lt_of_cell? _ _ f0
                  have j0 : (0 : Int) ≤ (x : Int) := by omega
                  have j1 : (x : Int) < (L.length : Int) := by omega
                  have hown2 := (st.own.alloc (.cells #[.string y.a.k, .string y.a.v, .string y.b.k, .string y.b.v, .string f.k, .string f.v] 44)).alloc (.cells #[.string y.a.k, .string y.a.v, .string y.b.k, .string y.b.v, .string f.k, .string f.v] 44)
                  have hnews := cell_six_new (wr.alloc (.cells #[.string y.a.k, .string y.a.v, .string y.b.k, .string y.b.v, .string f.k, .string f.v] 44)) 44 (.string y.a.k) (.string y.a.v) (.string y.b.k) (.string y.b.v) (.string f.k) (.string f.v)
                  rw [show (wr.alloc (.cells #[.string y.a.k, .string y.a.v, .string y.b.k, .string y.b.v, .string f.k, .string f.v] 44)).heap.size = wr.heap.size + 1 by simp] at hnews
                  have hstr : Strs [.string y.a.k, .string y.a.v, .string y.b.k, .string y.b.v, .string f.k, .string f.v] := strsS [setK 2 y f]
                  have hB2 : w.heap.size + 1 ≤ ((wr.alloc (.cells #[.string y.a.k, .string y.a.v, .string y.b.k, .string y.b.v, .string f.k, .string f.v] 44)).alloc (.cells #[.string y.a.k, .string y.a.v, .string y.b.k, .string y.b.v, .string f.k, .string f.v] 44)).heap.size := by have := st.base; simp; omega
                  have hle : tot3 ≤ 1000000000 := by
                    have h1 := st.tot
                    have h2 := HT2.out
                    have h3 := HT.out
                    have h4 := HLl.out
                    have h5 : i * L.length ≤ 4096 * 4096 := Nat.mul_le_mul (by omega) h4
                    omega
                  have hnb : n + L.length ≤ tot3 := by
                    have h1 := st.tot
                    have h3 := HT.out
                    omega
                  have HY : Hid (L[x]? = some y) := hy
                  clear hy
                  go_wp2_with (at_builtin; refine wpList_append_sel _ rfl _ _ rfl (w.heap.size + 1) g1 tot3 cap1 _ rfl hown2 ⟨wr.heap.size + 1, 0, none⟩ 1 [.string y.a.k, .string y.a.v, .string y.b.k, .string y.b.v, .string f.k, .string f.v] rfl rfl hnews hstr hle hB2 ?_; intro g2 cap2 w4 hown4 hgr4)
                  go_roundw
                  case rel => exact ⟨x + 1, g2, cap2, tot3 + 1, by omega, by go_num, rfl, st.next HY.out hown4 rfl hgr4 hnb⟩
                  case measure => simp [intOf]; omega
                · obtain rfl : x = L.length := by omega
                  go_wp2
                  go_roundw
                  case rel =>
                    refine ⟨i + 1, g1, cap1, tot3, by omega, by go_num, rfl, ?_, ?_, st.below⟩
                    · have h1 := st.tot
                      have h2 := HT2.out
                      show tot3 = tot + (i + 1) * L.length
                      rw [h1, h2, Nat.succ_mul]; omega
                    · rw [HPS.out]
                      have := st.own
                      rwa [List.take_of_length_le (Nat.le_refl _)] at this
                  case measure => simp [intOf]; omega
            · obtain rfl : lv = i := by omega
              have hcap : tot2 ≤ cap ∧ cap ≤ maxLen := by
                rcases hown.2 with ⟨e, _⟩ | ⟨_, _, _, e, _, _, q1, q2, _⟩
                · cases e
                · cases e; exact ⟨q1, q2⟩
              have ht := HT.out
              have ht2 := HT2.out
              have hpl : (part 2 (V 2) L lv).length = lv * L.length := part_length _ _ _ _ (by rw [← HLV.out]; exact Nat.le_refl _)
              have hsx : ts.length = n := by
                have := hown.1
                rw [rowS_length, List.length_append, List.length_append, hpl] at this
                omega
              have hmul : 1 ≤ lv * L.length := Nat.mul_pos (by omega) HPos.out
              have HROW : Hid ((rowS (ts ++ (L ++ part 2 (V 2) L lv))).take (n * 6) ++ (rowS (ts ++ (L ++ part 2 (V 2) L lv))).drop (tot * 6) = rowS (ts ++ part 2 (V 2) L lv)) := by
                rw [ht]
                exact cut_row ts L _ n hsx
              have HPA : Hid (part 2 (V 2) L lv = upTo s V (1 + 1)) := by
                rw [HU.out]
                exact part_all 2 (V 2) L lv (by rw [← HLV.out]; exact Nat.le_refl _)
              have HNT : Hid (n + (tot2 - tot) = n + (part 2 (V 2) L lv).length) := by
                rw [hpl]
                exact (by omega : n + (tot2 - tot) = n + lv * L.length)
              have n0 : (0 : Int) ≤ (n : Int) := by omega
              have n1 : (n : Int) ≤ (tot : Int) := by omega
              have n2 : (tot : Int) < (cap : Int) := by omega
              have n3 : (n : Int) < (cap : Int) := by omega
              have n4 : (cap : Int) ≤ 9223372036854775807 := by have := hcap.2; unfold maxLen at this; omega
              have n5 : (tot : Int) ≤ (tot2 : Int) := by omega
              have n6 : (tot2 : Int) ≤ (cap : Int) := by omega
              have n7 : (0 : Int) ≤ (tot : Int) := by omega
              have n8 : (n : Int) ≤ (cap : Int) := by omega
              have n9 : (n : Int) ≤ (tot2 : Int) := by omega
              have m1 : n ≤ tot := by omega
              have hct : ¬ cap = tot := by omega
              have m2 : tot ≤ tot2 := by omega
              have hownd : wr.drew.ownsRow (w.heap.size + 1) 44 6 (.slice (some ⟨g, 0, none⟩) tot2 cap) tot2 (rowS (ts ++ (L ++ part 2 (V 2) L lv))) := hown
              have hstr := strsS (ts ++ (L ++ part 2 (V 2) L lv))
              clear hcap ht ht2 hpl hsx hmul
              go_wp2_with fail
              go_region_held3 (fun _ => True) (trivial) ((refine step_append_cut rfl _ _ rfl (w.heap.size + 1) g n tot tot2 cap (cap - tot) _ (by rfl) (by rfl) hownd hstr m1 m2 ?_; intro w4 hown4 hb4))
              rw [HROW.out, HPA.out] at hown4
              have HNT' : Hid (n + (tot2 - tot) = n + (upTo s V (1 + 1)).length) := by rw [← HPA.out]; exact HNT.out
              have hb5 : Below (w.heap.size + 1) w1 w4 := hb.drew.trans hb4
              clear hb4
              go_wp2
              go_roundw
              case rel => exact ⟨1 + 1, g, cap, n + (tot2 - tot), upTo s V (1 + 1), by omega, rfl, rfl, rfl, HNT', hown4, hb5⟩
              case measure => simp [intOf]
      · have HS : Hid (L = upTo s V (1 + 1)) := HLj.out.trans (upTo_skip (k := 1) (.inl hE)).symm
        go_wp2_with (at_lookup; refine wpList_lookup_held _ rfl _ _ rfl bm nn D rfl hownM _ kl rfl hkey _ hat ?_)
        go_roundw
        case rel => exact ⟨1 + 1, g, cap, tot, L, by omega, rfl, rfl, HS, HT, hown, hb⟩
        case measure => simp [intOf]
    · have e1 : (((2 + 1 : Nat)) : Int) = 3 := rfl
      rw [e1]
      clear e1 hGr d1 d3 d5
      have hL := HLj.out
      have ht := HT.out
      rw [hL] at ht
      subst hL
      subst ht
      have hbs : Below w.heap.size w wr := hb1.trans (hb.mono (by omega))
      have hown' : wr.ownsRow w.heap.size 44 6 (.slice (some ⟨g, 0, none⟩) (n + (upTo s V 2).length) cap) (n + (upTo s V 2).length) (rowS (ts ++ upTo s V 2)) := by
        obtain ⟨q1, q2⟩ := hown
        refine ⟨q1, ?_⟩
        rcases q2 with q2 | ⟨g', c', cur, e, hbg, r⟩
        · exact .inl q2
        · exact .inr ⟨g', c', cur, e, by omega, r⟩
      go_wp2
      go_ret
      exact ⟨g, cap, rfl, hown', hbs⟩
end Go.Proofs.Qxb6604664a
