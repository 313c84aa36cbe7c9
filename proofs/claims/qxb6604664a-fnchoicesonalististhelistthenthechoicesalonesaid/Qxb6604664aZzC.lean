import Derived.Test.Qxb6604664aZzB
namespace Go.Proofs.Qxb6604664a
open Go.RowKit Go.Maps

set_option maxRecDepth 20000 in
set_option maxHeartbeats 2000000 in
theorem zzchoices_some (s : Sl) (gs : ByteArray) (a1 a2 : Option Addr) (ad3 : Addr) (l1 c1 l2 c2 l3 c3 : Nat) (ts : List Sl) (v1 v2 : List Pr) (out : List Sl) (w : World) (HOUT : Hid (out = ts ++ upTo s (Vof (gs.toList == s.a.v.toList) v1 v2) 2)) (hgs : gs.size ≤ maxLen) (hst : s.a.v.size ≤ maxLen) (h1 : SliceOf w a1 l1 2 (rowP v1)) (e1 : v1.length = l1) (n1 : a1 = none → l1 = 0 ∧ c1 = 0) (m1 : l1 ≤ 4096)
    (h2 : SliceOf w a2 l2 2 (rowP v2)) (e2 : v2.length = l2) (n2 : a2 = none → l2 = 0 ∧ c2 = 0) (m2 : l2 ≤ 4096) (h3 : SliceOf w (some ad3) l3 6 (rowS ts)) (m3 : l3 ≤ 4096) (e3 : ts.length = l3) :
    Calls Try.prog 11 #[.agg #[.string s.a.k, .string s.a.v, .string s.b.k, .string s.b.v, .string s.c.k, .string s.c.v], .string gs, .slice a1 l1 c1, .slice a2 l2 c2, .slice (some ad3) l3 c3] w fun e w' => ChoPost w out e w' := by
  subst e1 e2
  have q25 := fun (w : World) (a : Option Addr) (n c : Nat) => run_neq_slice_nil_any (P := Try.prog) w 25 23 a n c 0 0 Try.underlying25
  have hmm := @run_makeMap Try.prog
  obtain ⟨k1, hk1⟩ := key39 gs 1 hgs (by decide)
  obtain ⟨k2, hk2⟩ := key39 gs 2 hgs (by decide)
  obtain ⟨w1, hw1⟩ : ∃ w1, w1 = w.alloc (.cells #[.string s.a.k, .string s.a.v, .string s.b.k, .string s.b.v, .string s.c.k, .string s.c.v] 23) := ⟨_, rfl⟩
  have hbx : Below w.heap.size w w1 := by rw [hw1]; exact below_al (Below.refl _ _) _
  have HS1 : Hid (w1.heap.size = w.heap.size + 1) := by rw [hw1]; exact (by simp : (w.alloc (.cells #[.string s.a.k, .string s.a.v, .string s.b.k, .string s.b.v, .string s.c.k, .string s.c.v] 23)).heap.size = w.heap.size + 1)
  have hbox : w1.cell? ⟨w.heap.size, 0, none⟩ = some (.string s.a.k) ∧ w1.cell? ⟨w.heap.size, 1, none⟩ = some (.string s.a.v) ∧ w1.cell? ⟨w.heap.size, 2, none⟩ = some (.string s.b.k) ∧ w1.cell? ⟨w.heap.size, 3, none⟩ = some (.string s.b.v) ∧ w1.cell? ⟨w.heap.size, 4, none⟩ = some (.string s.c.k) ∧ w1.cell? ⟨w.heap.size, 5, none⟩ = some (.string s.c.v) := by
    rw [hw1]; simp [go_sem]
  have HBX : Hid (w1.cell? ⟨w.heap.size, 0, none⟩ = some (.string s.a.k) ∧ w1.cell? ⟨w.heap.size, 1, none⟩ = some (.string s.a.v) ∧ w1.cell? ⟨w.heap.size, 2, none⟩ = some (.string s.b.k) ∧ w1.cell? ⟨w.heap.size, 3, none⟩ = some (.string s.b.v) ∧ w1.cell? ⟨w.heap.size, 4, none⟩ = some (.string s.c.k) ∧ w1.cell? ⟨w.heap.size, 5, none⟩ = some (.string s.c.v)) := hbox
  replace h1 := h1.below hbx
  replace h2 := h2.below hbx
  replace h3 := h3.below hbx
  have hbm : Below w1.heap.size w1 (w1.alloc (.map #[] 0)) := below_al (Below.refl _ _) _
  have hown1 := World.ownsMap_made w1 Try.prog 39 heldElem
  obtain ⟨f1, hf1⟩ := fieldsOf_any a1 v1.length c1 n1 (rowP v1) (w1.alloc (.map #[] 0)) (h1.below hbm) (strsP v1) (by omega)
  have HF1 : Hid (Calls Try.prog 15 #[.slice a1 v1.length c1] (w1.alloc (.map #[] 0)) fun e w' => e = .returned (.slice f1 v1.length v1.length) ∧ SliceOf w' f1 v1.length 2 (rowP v1) ∧ Below (w1.alloc (.map #[] 0)).heap.size (w1.alloc (.map #[] 0)) w') := hf1
  have e2 : w1.heap.size = w.heap.size + 1 := HS1.out
  rw [e2] at hown1
  clear hf1 hbox h1 e2
  go_enter Try.func11, Try.ntmps11
  go_wp2_with fail
  rw [← hw1]
  refine HF1.out.mono ?_
  rintro e w2 ⟨rfl, hS1, hb2⟩
  have hown2 : w2.ownsMap Try.prog 39 heldElem (w.heap.size + 1) 0 (.map []) := hown1.kept (row := none) ⟨hb2.os, hb2.tape, hb2.output, hb2.size, fun i hi _ => hb2.block i hi⟩ (by simp)
  replace hb2 : Below w1.heap.size w1 w2 := hbm.trans (hb2.mono hbm.size)
  clear hown1 hbm HF1 hw1 hmm
  go_wp2_with (at_mapUpdate; refine wpList_mapUpdate_own _ rfl _ _ _ 35 rfl 39 36 law39 Try.underlying35 heldElem (w.heap.size + 1) 0 (.map []) rfl hown2 (by unfold maxLen; omega) _ (.slice f1 v1.length v1.length) k1 rfl rfl hk1 (.held (.slice f1 v1.length v1.length)) [] rfl ?_; intro w3 hown3 hg3)
  have hb3 : Below w1.heap.size w1 w3 := hb2.grown hg3 hb2.size (fun k hk => by cases hk; rw [HS1.out]; exact Nat.le_refl _)
  have hS13 := hS1.turned hown2 hg3
  obtain ⟨f2, hf2⟩ := fieldsOf_any a2 v2.length c2 n2 (rowP v2) w3 (h2.below hb3) (strsP v2) (by omega)
  refine hf2.mono ?_
  rintro e w4 ⟨rfl, hS2, hb4⟩
  have hown4 : w4.ownsMap Try.prog 39 heldElem (w.heap.size + 1) 1 ((DataW.map []).put k1 (.held (.slice f1 v1.length v1.length))) := hown3.kept (row := none) ⟨hb4.os, hb4.tape, hb4.output, hb4.size, fun i hi _ => hb4.block i hi⟩ (by simp)
  have hS14 := hS13.below hb4
  replace hb4 : Below w1.heap.size w1 w4 := hb3.trans (hb4.mono hb3.size)
  clear hf2 hown3 hg3 hown2 hS1 hb2 hS13 hb3
  go_wp2_with (at_mapUpdate; refine wpList_mapUpdate_own _ rfl _ _ _ 35 rfl 39 36 law39 Try.underlying35 heldElem (w.heap.size + 1) 1 _ rfl hown4 (by unfold maxLen; omega) _ (.slice f2 v2.length v2.length) k2 rfl rfl hk2 (.held (.slice f2 v2.length v2.length)) [] rfl ?_; intro w5 hown5 hg5; have hb5 := below_map hb4 hg5 HS1.out; obtain ⟨x0, x1, x2, x3, x4, x5⟩ := box_kept hb5 HS1.out HBX.out; obtain ⟨q, hq⟩ : ∃ q, q = w5.heap.size := ⟨_, rfl⟩; obtain ⟨w5b, yq, hmk5, hownq, hbq, hsq⟩ := make_own Try.underlying40 Try.info44 w5 q l3 hq (by omega) (by unfold maxLen; omega); have HQ : Hid (q = w5.heap.size) := hq; clear hq hsq)
  have hG5 : Given w5 (w.heap.size + 1) s.a.v (Vof (gs.toList == s.a.v.toList) v1 v2) _ _ := given_of hst hk1 hk2 hown5 (hS14.turned hown4 hg5) (hS2.turned hown4 hg5)
  clear hown5 hg5 hown4 hS14 hS2 hb4 x0 x1 x2 x3 x4 x5
  go_loopw [36] (fun ix wr => ∃ (i : Nat) (ys : List Value), i ≤ l3 ∧ ix = .int .i64 i ∧ wr.ownsRow q 44 6 (.slice (some ⟨q, 0, none⟩) l3 l3) l3 ys ∧ Hid (∀ j, j < i * 6 → ys[j]? = (rowS ts)[j]?) ∧ Below w5.heap.size w5 wr) (fun ix _ => l3 - (intOf ix).toNat)
  case atStart => exact ⟨0, yq, Nat.zero_le _, rfl, hownq, fun j hj => by omega, hbq⟩
  case round =>
   clear hownq hbq
   obtain ⟨i, ys, hi, rfl, hownR, HF, hbR⟩ := hrel
   by_cases hlt : i < l3
   · obtain ⟨b3, o3, hab, hc⟩ := h3.cells (by omega)
     cases hab
     have hl := h3.len_eq
     have hyl := hownR.1
     obtain ⟨u0, e0⟩ : ∃ u, (rowS ts)[i * 6]? = some u := ⟨_, List.getElem?_eq_getElem (by omega)⟩
     obtain ⟨u1, e1⟩ : ∃ u, (rowS ts)[i * 6 + 1]? = some u := ⟨_, List.getElem?_eq_getElem (by omega)⟩
     obtain ⟨u2, e2⟩ : ∃ u, (rowS ts)[i * 6 + 2]? = some u := ⟨_, List.getElem?_eq_getElem (by omega)⟩
     obtain ⟨u3, e4⟩ : ∃ u, (rowS ts)[i * 6 + 3]? = some u := ⟨_, List.getElem?_eq_getElem (by omega)⟩
     obtain ⟨u4, e5⟩ : ∃ u, (rowS ts)[i * 6 + 4]? = some u := ⟨_, List.getElem?_eq_getElem (by omega)⟩
     obtain ⟨u5, e6⟩ : ∃ u, (rowS ts)[i * 6 + 5]? = some u := ⟨_, List.getElem?_eq_getElem (by omega)⟩
     have c0 := hc _ _ e0
     have c1 := hc _ _ e1
     have c2 := hc _ _ e2
     have c3 := hc _ _ e4
     have c4 := hc _ _ e5
     have c5 := hc _ _ e6
     have bl : b3 < w1.heap.size := World.block_lt_of_cell? _ _ c0
     rw [← hb5.cell (p := ⟨b3, _, none⟩) bl, ← hbR.cell (p := ⟨b3, _, none⟩) (Nat.lt_of_lt_of_le bl hb5.size)] at c0 c1 c2 c3 c4 c5
     rw [← Nat.add_assoc] at c1 c2 c3 c4 c5
     obtain ⟨s0, rfl⟩ := strsS ts _ (List.mem_of_getElem? e0)
     obtain ⟨s1, rfl⟩ := strsS ts _ (List.mem_of_getElem? e1)
     obtain ⟨s2, rfl⟩ := strsS ts _ (List.mem_of_getElem? e2)
     obtain ⟨s3, rfl⟩ := strsS ts _ (List.mem_of_getElem? e4)
     obtain ⟨s4, rfl⟩ := strsS ts _ (List.mem_of_getElem? e5)
     obtain ⟨s5, rfl⟩ := strsS ts _ (List.mem_of_getElem? e6)
     have HFN : Hid (∀ j, j < (i + 1) * 6 → ((((((ys.set (i * 6) (.string s0)).set (i * 6 + 1) (.string s1)).set (i * 6 + 2) (.string s2)).set (i * 6 + 3) (.string s3)).set (i * 6 + 4) (.string s4)).set (i * 6 + 5) (.string s5))[j]? = (rowS ts)[j]?) := fill6 (ys := ys) (by omega) HF.out e0 e1 e2 e4 e5 e6
     have i0 : (0 : Int) ≤ (i : Int) := by omega
     have i1 : (i : Int) < (l3 : Int) := by omega
     clear hc hl e0 e1 e2 e4 e5 e6 HF
     go_wp2_with fail
     refine (selectorsOf_any s0 s1 s2 s3 s4 s5 _).mono ?_
     rintro e w7 ⟨rfl, hb7⟩
     have own7 : w7.ownsRow q 44 6 (.slice (some ⟨q, 0, none⟩) l3 l3) l3 ys := hownR.kept (row := none) ⟨hb7.os, hb7.tape, hb7.output, hb7.size, fun i hi _ => hb7.block i hi⟩ (.inr (by simp [Value.ownBlock]))
     have o2 := ((((((own7.stored (i * 6) (.string s0)).1.stored (i * 6 + 1) (.string s1)).1.stored (i * 6 + 2) (.string s2)).1.stored (i * 6 + 3) (.string s3)).1.stored (i * 6 + 4) (.string s4)).1.stored (i * 6 + 5) (.string s5)).1
     obtain ⟨y0, f0⟩ : ∃ u, w7.cell? ⟨q, i * 6, none⟩ = some u := ⟨_, (own7.cellAt _ (by omega)).trans (List.getElem?_eq_getElem (by omega))⟩
     obtain ⟨y1, f1⟩ : ∃ u, w7.cell? ⟨q, i * 6 + 1, none⟩ = some u := ⟨_, (own7.cellAt _ (by omega)).trans (List.getElem?_eq_getElem (by omega))⟩
     obtain ⟨y2, f2⟩ : ∃ u, w7.cell? ⟨q, i * 6 + 2, none⟩ = some u := ⟨_, (own7.cellAt _ (by omega)).trans (List.getElem?_eq_getElem (by omega))⟩
     obtain ⟨y3, f3⟩ : ∃ u, w7.cell? ⟨q, i * 6 + 3, none⟩ = some u := ⟨_, (own7.cellAt _ (by omega)).trans (List.getElem?_eq_getElem (by omega))⟩
     obtain ⟨y4, f4⟩ : ∃ u, w7.cell? ⟨q, i * 6 + 4, none⟩ = some u := ⟨_, (own7.cellAt _ (by omega)).trans (List.getElem?_eq_getElem (by omega))⟩
     obtain ⟨y5, f5⟩ : ∃ u, w7.cell? ⟨q, i * 6 + 5, none⟩ = some u := ⟨_, (own7.cellAt _ (by omega)).trans (List.getElem?_eq_getElem (by omega))⟩
     have z0 := own7.frozenAt (i * 6)
     have z1 := own7.frozenAt (i * 6 + 1)
     have z2 := own7.frozenAt (i * 6 + 2)
     have z3 := own7.frozenAt (i * 6 + 3)
     have z4 := own7.frozenAt (i * 6 + 4)
     have z5 := own7.frozenAt (i * 6 + 5)
     have hqb : w5.heap.size ≤ q := by have := HQ.out; omega
     have hb77 : Below w5.heap.size w5 w7 := hbR.trans (hb7.mono hbR.size)
     have hb2 : Below w5.heap.size w5 ((((((w7.setCell ⟨q, i * 6, none⟩ (.string s0)).setCell ⟨q, i * 6 + 1, none⟩ (.string s1)).setCell ⟨q, i * 6 + 2, none⟩ (.string s2)).setCell ⟨q, i * 6 + 3, none⟩ (.string s3)).setCell ⟨q, i * 6 + 4, none⟩ (.string s4)).setCell ⟨q, i * 6 + 5, none⟩ (.string s5)) :=
       (((((hb77.setCell hqb _).setCell hqb _).setCell hqb _).setCell hqb _).setCell hqb _).setCell hqb _
     clear own7 hownR hbR hb7 hb77 hyl
     go_wp2
     go_roundw
     case rel => exact ⟨i + 1, _, by omega, by go_num, o2, HFN, hb2⟩
     case measure => simp [intOf]; omega
   · obtain rfl : l3 = i := by omega
     have hfin : ys = rowS ts := filled_all hownR.1 h3.len_eq HF.out
     rw [hfin] at hownR
     have hto5 : SliceOf wr (some ⟨q, 0, none⟩) l3 6 (rowS ts) := SliceOf.of_own hownR
     have hG5' := hG5.below hbR
     have hb5' : Below w1.heap.size w1 wr := hb5.trans (hbR.mono hb5.size)
     obtain ⟨x0, x1, x2, x3, x4, x5⟩ := box_kept hb5' HS1.out HBX.out
     clear hfin hownR HF hbR hG5 hb5
     obtain ⟨ws, hws⟩ : ∃ ws : World, ws = wr := ⟨_, rfl⟩
     subst hws
     have hG5 := hG5'
     have hb5 := hb5'
     clear hG5' hb5'
     go_wp2_with fail
     refine (selectorsOf_any s.a.k s.a.v s.b.k s.b.v s.c.k s.c.v _).mono ?_
     rintro e w6 ⟨rfl, hb6⟩
     have hG6 := hG5.below hb6
     have hto6 := hto5.below hb6
     replace hb6 : Below w1.heap.size w1 w6 := hb5.trans (hb6.mono hb5.size)
     have hV : ∀ k, k = 1 ∨ k = 2 → (Vof (gs.toList == s.a.v.toList) v1 v2 k).length ≤ 4096 := fun k hk => by
       unfold Vof
       rcases hk with rfl | rfl <;> split <;> simp <;> omega
     clear hG5 hb5 x0 x1 x2 x3 x4 x5
     go_wp2_with fail
     refine (choices_any s (w.heap.size + 1) _ _ _ (some ⟨q, 0, none⟩) l3 ts w6 hG6 hV hto6 (by omega)).mono ?_
     rintro e w8 ⟨g, cap, rfl, hown8, hb8⟩
     have hout := HOUT.out
     have hlo : out.length = l3 + (upTo s (Vof (gs.toList == s.a.v.toList) v1 v2) 2).length := by rw [hout, List.length_append]; rw [e3]
     obtain ⟨N, hN⟩ : ∃ N, N = l3 + (upTo s (Vof (gs.toList == s.a.v.toList) v1 v2) 2).length := ⟨_, rfl⟩
     have hNb : N ≤ 17000000 := by have := (upTo_len s _ hV).2; rw [hN]; omega
     rw [← hN] at hown8 hlo ⊢
     rw [← hout] at hown8
     have HLO : Hid (out.length = N) := hlo
     have hb8' : Below w.heap.size w w8 := hbx.trans ((hb6.trans (hb8.mono hb6.size)).mono (by have := HS1.out; omega))
     obtain ⟨r, hr⟩ : ∃ r, r = w8.heap.size := ⟨_, rfl⟩
     obtain ⟨w9, ys0, hmk, hown9, hb9, hs9⟩ := make_own Try.underlying25 Try.info23 w8 r N hr (by omega) (by unfold maxLen; omega)
     have hgr : g < r := by
       rw [hr]
       exact (hown8.lt g rfl).2
     have HR : Hid (r = w8.heap.size) := hr
     clear hr hs9 hout hN hlo hb8 hV hG6 hb6
     go_wp2_with fail
     go_loopw [58] (fun ix wr => ∃ (i : Nat) (ys : List Value), i ≤ N ∧ ix = .int .i64 i ∧ wr.ownsRow r 23 6 (.slice (some ⟨r, 0, none⟩) N N) N ys ∧ Hid (∀ j, j < i * 6 → ys[j]? = (rowS out)[j]?) ∧ Below w8.heap.size w8 wr) (fun ix _ => N - (intOf ix).toNat)
     case atStart => exact ⟨0, ys0, Nat.zero_le _, rfl, hown9, fun j hj => by omega, hb9⟩
     case round =>
       clear hown9 hb9 hmk
       obtain ⟨i, ys, hi, rfl, hownR, HF, hbR⟩ := hrel
       by_cases hlt : i < N
       · obtain ⟨wo, hwo⟩ : ∃ wo : World, wo = wr := ⟨_, rfl⟩
         subst hwo
         go_wp2_with fail
         go_loopw [17] (fun kx wr => ∃ (k : Nat) (ys : List Value), k ≤ 3 ∧ kx = .int .i64 k ∧ wr.ownsRow r 23 6 (.slice (some ⟨r, 0, none⟩) N N) N ys ∧ Hid (∀ j, j < i * 6 + k * 2 → ys[j]? = (rowS out)[j]?) ∧ Below w8.heap.size w8 wr) (fun kx _ => 3 - (intOf kx).toNat)
         case atStart => exact ⟨0, ys, by omega, rfl, hownR, by simpa using HF, hbR⟩
         case round =>
           clear hownR HF hbR
           obtain ⟨k, ys, hk, rfl, hownR, HF, hbR⟩ := hrel
           by_cases hkt : k < 3
           · have hol : (rowS out).length = N * 6 := by rw [rowS_length, HLO.out]
             have hyl := hownR.1
             obtain ⟨u0, e0⟩ : ∃ u, (rowS out)[i * 6 + k * 2]? = some u := ⟨_, List.getElem?_eq_getElem (by omega)⟩
             obtain ⟨u1, e1⟩ : ∃ u, (rowS out)[i * 6 + k * 2 + 1]? = some u := ⟨_, List.getElem?_eq_getElem (by omega)⟩
             obtain ⟨t0, rfl⟩ := strsS out _ (List.mem_of_getElem? e0)
             obtain ⟨t1, rfl⟩ := strsS out _ (List.mem_of_getElem? e1)
             have g0 : wr.cell? ⟨g, i * 6 + k * 2, none⟩ = some (.string t0) := (hbR.cell (p := ⟨g, _, none⟩) (by rw [← HR.out]; exact hgr)).trans ((hown8.cellAt _ (by omega)).trans e0)
             have g1 : wr.cell? ⟨g, i * 6 + k * 2 + 1, none⟩ = some (.string t1) := (hbR.cell (p := ⟨g, _, none⟩) (by rw [← HR.out]; exact hgr)).trans ((hown8.cellAt _ (by omega)).trans e1)
             have HFN : Hid (∀ j, j < i * 6 + k * 2 + 2 → ((ys.set (i * 6 + k * 2) (.string t0)).set (i * 6 + k * 2 + 1) (.string t1))[j]? = (rowS out)[j]?) := fillAt (by omega) HF.out e0 e1
             have o2 := ((hownR.stored (i * 6 + k * 2) (.string t0)).1.stored (i * 6 + k * 2 + 1) (.string t1)).1
             obtain ⟨p0, d0⟩ : ∃ u, wr.cell? ⟨r, i * 6 + k * 2, none⟩ = some u := ⟨_, (hownR.cellAt _ (by omega)).trans (List.getElem?_eq_getElem (by omega))⟩
             obtain ⟨p1, d1⟩ : ∃ u, wr.cell? ⟨r, i * 6 + k * 2 + 1, none⟩ = some u := ⟨_, (hownR.cellAt _ (by omega)).trans (List.getElem?_eq_getElem (by omega))⟩
             have z0 := hownR.frozenAt (i * 6 + k * 2)
             have z1 := hownR.frozenAt (i * 6 + k * 2 + 1)
             have hrb : w8.heap.size ≤ r := by have := HR.out; omega
             have hb2 : Below w8.heap.size w8 ((wr.setCell ⟨r, i * 6 + k * 2, none⟩ (.string t0)).setCell ⟨r, i * 6 + k * 2 + 1, none⟩ (.string t1)) := (hbR.setCell hrb _).setCell hrb _
             have i0 : (0 : Int) ≤ (i : Int) := by omega
             have i1 : (i : Int) < (N : Int) := by omega
             have j0 : (0 : Int) ≤ (k : Int) := by omega
             have j1 : (k : Int) < 3 := by omega
             have hne : g ≠ r := by omega
             clear hol hyl e0 e1 HF hownR hbR
             go_wp2_with fail
             go_region_held3 (fun w' => w'.cell? ⟨g, i * 6 + k * 2, none⟩ = some (.string t0) ∧ w'.cell? ⟨g, i * 6 + k * 2 + 1, none⟩ = some (.string t1)) (simp [go_sem, g0, g1]) (fail)
             go_wp2
             go_roundw
             case rel => exact ⟨k + 1, _, by omega, by go_num, o2.drew, fun j hj => HFN.out j (by omega), hb2.drew⟩
             case measure => simp [intOf]; omega
           · go_wp2
             go_roundw
             case rel => exact ⟨i + 1, ys, by omega, by go_num, hownR, fun j hj => HF.out j (by omega), hbR⟩
             case measure => simp [intOf]; omega
       · obtain rfl : i = N := by omega
         have hfin : ys = rowS out := filled_all hownR.1 (by rw [rowS_length, HLO.out]) HF.out
         rw [hfin] at hownR
         have hlo := HLO.out
         subst hlo
         clear hfin
         go_wp2
         go_ret
         exact ⟨_, rfl, SliceOf.of_own hownR, hb8'.trans (hbR.mono hb8'.size)⟩

end Go.Proofs.Qxb6604664a
