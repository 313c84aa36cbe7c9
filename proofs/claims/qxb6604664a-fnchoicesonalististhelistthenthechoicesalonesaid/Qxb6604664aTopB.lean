import Derived.Test.Qxb6604664aTop
namespace Go.Proofs.Qxb6604664a
open Go.RowKit Go.Maps

theorem prodL_mem {s : Sl} {o1 o2 : List Pr} {y : Sl} (h : y ∈ prodL s o1 o2) : ∃ f1 f2, y = mk3 s f1 f2 := by
  simp only [prodL, List.mem_flatMap, List.mem_map] at h
  obtain ⟨f2, _, f1, _, rfl⟩ := h
  exact ⟨f1, f2, rfl⟩

set_option maxRecDepth 20000 in
set_option maxHeartbeats 2000000 in
theorem onalist_any (s : Sl) (gs : ByteArray) (a1 a2 a3 : Option Addr) (l1 c1 l2 c2 l3 c3 : Nat) (v1 v2 : List Pr) (ts : List Sl) (w : World) (hgs : gs.size ≤ maxLen) (hst : s.a.v.size ≤ maxLen)
    (h1 : SliceOf w a1 l1 2 (rowP v1)) (e1 : v1.length = l1) (n1 : a1 = none → l1 = 0 ∧ c1 = 0) (h2 : SliceOf w a2 l2 2 (rowP v2)) (e2 : v2.length = l2) (n2 : a2 = none → l2 = 0 ∧ c2 = 0)
    (h3 : SliceOf w a3 l3 6 (rowS ts)) (e3 : ts.length = l3) (n3 : a3 = none → l3 = 0 ∧ c3 = 0) :
    Calls Try.prog 4 #[.agg #[.string s.a.k, .string s.a.v, .string s.b.k, .string s.b.v, .string s.c.k, .string s.c.v], .string gs, .slice a1 l1 c1, .slice a2 l2 c2, .slice a3 l3 c3] w fun e w' => e = .returned (.bool true) ∧ Below w.heap.size w w' := by
  have q1 := h1.most
  have q2 := h2.most
  have q3 := h3.most
  have HGS : Hid (gs.size ≤ maxLen) := hgs
  unfold maxLen at q1 q2 q3 hgs
  have E1 : Hid (v1.length = l1) := e1
  have E2 : Hid (v2.length = l2) := e2
  have E3 : Hid (ts.length = l3) := e3
  clear e1 e2 e3
  obtain ⟨w1, hw1⟩ : ∃ w1, w1 = w.alloc (.cells #[.string s.a.k, .string s.a.v, .string s.b.k, .string s.b.v, .string s.c.k, .string s.c.v] 23) := ⟨_, rfl⟩
  have hbx : Below w.heap.size w w1 := by rw [hw1]; exact below_al (Below.refl _ _) _
  have HS1 : Hid (w1.heap.size = w.heap.size + 1) := by rw [hw1]; exact (by simp : (w.alloc (.cells #[.string s.a.k, .string s.a.v, .string s.b.k, .string s.b.v, .string s.c.k, .string s.c.v] 23)).heap.size = w.heap.size + 1)
  have hbox : w1.cell? ⟨w.heap.size, 0, none⟩ = some (.string s.a.k) ∧ w1.cell? ⟨w.heap.size, 1, none⟩ = some (.string s.a.v) ∧ w1.cell? ⟨w.heap.size, 2, none⟩ = some (.string s.b.k) ∧ w1.cell? ⟨w.heap.size, 3, none⟩ = some (.string s.b.v) ∧ w1.cell? ⟨w.heap.size, 4, none⟩ = some (.string s.c.k) ∧ w1.cell? ⟨w.heap.size, 5, none⟩ = some (.string s.c.v) := by
    rw [hw1]; simp [go_sem]
  have HBX : Hid (w1.cell? ⟨w.heap.size, 0, none⟩ = some (.string s.a.k) ∧ w1.cell? ⟨w.heap.size, 1, none⟩ = some (.string s.a.v) ∧ w1.cell? ⟨w.heap.size, 2, none⟩ = some (.string s.b.k) ∧ w1.cell? ⟨w.heap.size, 3, none⟩ = some (.string s.b.v) ∧ w1.cell? ⟨w.heap.size, 4, none⟩ = some (.string s.c.k) ∧ w1.cell? ⟨w.heap.size, 5, none⟩ = some (.string s.c.v)) := hbox
  clear hbox
  replace h1 := h1.below hbx
  replace h2 := h2.below hbx
  replace h3 := h3.below hbx
  have FIN : Hid (∀ w', Below w1.heap.size w1 w' → Below w.heap.size w w') := fun w' hb => hbx.trans (hb.mono hbx.size)
  go_enter Try.func4, Try.ntmps4
  go_wp2_with fail
  rw [← hw1]
  clear hw1 hbx
  refine (bytes13_any s.a.k s.a.v s.b.k s.b.v s.c.k s.c.v gs a1 a2 a3 l1 l2 l3 c1 c2 c3 _ _ _ w1 h1 (strsP v1) h2 (strsP v2) h3 (strsS ts)).mono ?_
  rintro e w2 ⟨⟨r, rfl⟩, hb2⟩
  cases r
  · go_wp2
    go_ret
    exact ⟨rfl, FIN.out _ hb2⟩
  by_cases t0 : 65536 < gs.size
  · go_wp2
    go_ret
    exact ⟨rfl, FIN.out _ hb2⟩
  by_cases t1 : 4096 < l1
  · go_wp2
    go_ret
    exact ⟨rfl, FIN.out _ hb2⟩
  by_cases t2 : 4096 < l2
  · go_wp2
    go_ret
    exact ⟨rfl, FIN.out _ hb2⟩
  by_cases t3 : 4096 < l3
  · go_wp2
    go_ret
    exact ⟨rfl, FIN.out _ hb2⟩
  obtain ⟨x0, x1, x2, x3, x4, x5⟩ := box_kept hb2 HS1.out HBX.out
  go_wp2_with fail
  refine (selectorBytes_any s.a.k s.a.v s.b.k s.b.v s.c.k s.c.v _).mono ?_
  rintro e w3 ⟨⟨r0, rfl⟩, hw3⟩
  have hb3 : Below w1.heap.size w1 w3 := by rw [hw3]; exact hb2.alloc hb2.size _
  clear hw3 x0 x1 x2 x3 x4 x5 hb2
  go_wp2_with fail
  refine (pairsBytes_any a1 l1 c1 (rowP v1) w3 (h1.below hb3) (strsP v1)).mono ?_
  rintro e w4 ⟨⟨r1, rfl⟩, qn, hw4⟩
  have hb4 : Below w1.heap.size w1 w4 := by rw [hw4]; exact below_drewN hb3 _
  clear hw4 hb3
  go_wp2_with fail
  refine (pairsBytes_any a2 l2 c2 (rowP v2) w4 (h2.below hb4) (strsP v2)).mono ?_
  rintro e w5 ⟨⟨r2, rfl⟩, qm, hw5⟩
  have hb5 : Below w1.heap.size w1 w5 := by rw [hw5]; exact below_drewN hb4 _
  clear hw5 hb4
  go_wp2_with fail
  refine (selectorsBytes_any a3 l3 c3 (rowS ts) w5 (h3.below hb5) (strsS ts)).mono ?_
  rintro e w6 ⟨⟨r3, rfl⟩, hb6⟩
  replace hb6 : Below w1.heap.size w1 w6 := hb5.trans (hb6.mono hb5.size)
  clear hb5
  go_wp2_with fail
  iterate 2 (focus (go_ret; exact ⟨rfl, FIN.out _ hb6⟩))
  rename_i hW1 hW2 K1 A1 K2 A2
  clear hW1 hW2
  obtain ⟨b1, hc1⟩ := clonePairs_any a1 l1 c1 n1 (rowP v1) w6 (h1.below hb6) (strsP v1) (by omega)
  refine hc1.mono ?_
  rintro e w7 ⟨rfl, hS1, hb7⟩
  replace hb7 : Below w1.heap.size w1 w7 := hb6.trans (hb7.mono hb6.size)
  clear hc1 hb6
  go_wp2_with fail
  obtain ⟨b2, hc2⟩ := clonePairs_any a2 l2 c2 n2 (rowP v2) w7 (h2.below hb7) (strsP v2) (by omega)
  refine hc2.mono ?_
  rintro e w8 ⟨rfl, hS2, hb8⟩
  replace hS1 := hS1.below hb8
  replace hb8 : Below w1.heap.size w1 w8 := hb7.trans (hb8.mono hb7.size)
  clear hc2 hb7
  go_wp2_with fail
  obtain ⟨b3, hc3⟩ := cloneSelectors_any a3 l3 c3 n3 (rowS ts) w8 (h3.below hb8) (strsS ts) (by omega)
  refine hc3.mono ?_
  rintro e w9 ⟨rfl, hS3, hb9⟩
  replace hS1 := hS1.below hb9
  replace hS2 := hS2.below hb9
  replace hb9 : Below w1.heap.size w1 w9 := hb8.trans (hb9.mono hb8.size)
  clear hc3 hb8 h1 h2 h3 n1 n2 n3
  obtain ⟨x0, x1, x2, x3, x4, x5⟩ := box_kept hb9 HS1.out HBX.out
  go_wp2_with fail
  obtain ⟨O1, HO1⟩ : ∃ O1, Hid (O1 = optsK s 1 (gs.toList == s.a.v.toList) v1) := ⟨_, rfl⟩
  obtain ⟨O2, HO2⟩ : ∃ O2, Hid (O2 = optsK s 2 (gs.toList == s.a.v.toList) v2) := ⟨_, rfl⟩
  have hO1l : O1.length ≤ 4096 := by rw [HO1.out]; exact opts_len _ _ _ _ (by rw [E1.out]; omega)
  have hO2l : O2.length ≤ 4096 := by rw [HO2.out]; exact opts_len _ _ _ _ (by rw [E2.out]; omega)
  obtain ⟨out, hout⟩ : ∃ out, out = ts ++ prodL s O1 O2 := ⟨_, rfl⟩
  have hol : out.length = l3 + O2.length * O1.length := by rw [hout, List.length_append, prodL_length, E3.out]
  refine (zzchoices_any s gs b1 b2 b3 l1 l1 l2 l2 l3 l3 v1 v2 ts out w9 (by rw [hout, HO1.out, HO2.out, prod_eq]) HGS.out hst hS1 E1.out (fun e => by subst e; exact ⟨hS1.none_len, hS1.none_len⟩) (by omega) hS2 E2.out (fun e => by subst e; exact ⟨hS2.none_len, hS2.none_len⟩) (by omega) hS3 E3.out (fun e => by subst e; exact ⟨hS3.none_len, hS3.none_len⟩) (by omega)).mono ?_
  rintro e wa ⟨ga, rfl, hSg, hba⟩
  obtain ⟨P, hP⟩ : ∃ P, P = O2.length * O1.length := ⟨_, rfl⟩
  have hPl : P ≤ 16777216 := by rw [hP]; exact Nat.le_trans (Nat.mul_le_mul hO2l hO1l) (by omega)
  have hmul : IntKind.i64.wrap ((O1.length : Int) * (O2.length : Int)) = (P : Int) := mul_small hP hPl
  have hsum : IntKind.i64.wrap ((l3 : Int) + (P : Int)) = (l3 : Int) + (P : Int) := sum_small (Nat.le_of_not_lt t3) hPl
  rw [hol, ← hP] at hSg
  rw [hol, ← hP]
  have HP : Hid (P = O2.length * O1.length) := hP
  clear hP
  replace hS1 := hS1.below hba
  replace hS2 := hS2.below hba
  replace hS3 := hS3.below hba
  replace hba : Below w1.heap.size w1 wa := hb9.trans (hba.mono hb9.size)
  have HOUT : Hid (out = ts ++ prodL s O1 O2) := hout
  clear hb9 x0 x1 x2 x3 x4 x5 hout hol
  obtain ⟨x0, x1, x2, x3, x4, x5⟩ := box_kept hba HS1.out HBX.out
  go_wp2_with fail
  obtain ⟨alo, halo⟩ : ∃ alo, alo = prodL s O1 O2 := ⟨_, rfl⟩
  have hal : alo.length = P := by rw [halo, prodL_length, HP.out]
  refine (zzchoices_any s gs b1 b2 none l1 l1 l2 l2 0 0 v1 v2 [] alo wa (by rw [halo, HO1.out, HO2.out, prod_eq]; rfl) HGS.out hst hS1 E1.out (fun e => by subst e; exact ⟨hS1.none_len, hS1.none_len⟩) (by omega) hS2 E2.out (fun e => by subst e; exact ⟨hS2.none_len, hS2.none_len⟩) (by omega) (empty_slice wa 6) rfl (fun _ => ⟨rfl, rfl⟩) (by omega)).mono ?_
  rintro e wb ⟨gl, rfl, hSa, hbb⟩
  rw [hal] at hSa ⊢
  replace hSg := hSg.below hbb
  replace hS1 := hS1.below hbb
  replace hS2 := hS2.below hbb
  replace hS3 := hS3.below hbb
  replace hbb : Below w1.heap.size w1 wb := hba.trans (hbb.mono hba.size)
  have HALO : Hid (alo = prodL s O1 O2) := halo
  have HAL : Hid (alo.length = P) := hal
  clear hba x0 x1 x2 x3 x4 x5 halo hal
  obtain ⟨x0, x1, x2, x3, x4, x5⟩ := box_kept hbb HS1.out HBX.out
  have HC1 : Hid (∀ wX, SliceOf wX b1 l1 2 (rowP v1) → Calls Try.prog 14 #[.agg #[.string s.a.k, .string s.a.v, .string s.b.k, .string s.b.v, .string s.c.k, .string s.c.v], .int .i64 1, .bool (gs.toList == s.a.v.toList), .slice b1 l1 l1] wX fun e w' => e = .returned (.int .i64 (O1.length : Int)) ∧ Below wX.heap.size wX w') := fun wX h => by
    rw [HO1.out]
    exact count_1 s _ b1 l1 l1 v1 wX E1.out h
  have HC2 : Hid (∀ wX, SliceOf wX b2 l2 2 (rowP v2) → Calls Try.prog 14 #[.agg #[.string s.a.k, .string s.a.v, .string s.b.k, .string s.b.v, .string s.c.k, .string s.c.v], .int .i64 2, .bool (gs.toList == s.a.v.toList), .slice b2 l2 l2] wX fun e w' => e = .returned (.int .i64 (O2.length : Int)) ∧ Below wX.heap.size wX w') := fun wX h => by
    rw [HO2.out]
    exact count_2 s _ b2 l2 l2 v2 wX E2.out h
  go_wp2_with fail
  go_region_held3 (fun w' => w'.cell? ⟨w.heap.size, 0, none⟩ = some (.string s.a.k) ∧ w'.cell? ⟨w.heap.size, 1, none⟩ = some (.string s.a.v) ∧ w'.cell? ⟨w.heap.size, 2, none⟩ = some (.string s.b.k) ∧ w'.cell? ⟨w.heap.size, 3, none⟩ = some (.string s.b.v) ∧ w'.cell? ⟨w.heap.size, 4, none⟩ = some (.string s.c.k) ∧ w'.cell? ⟨w.heap.size, 5, none⟩ = some (.string s.c.v))
    (first | exact hBoxF | exact hBoxE | exact ⟨x0, x1, x2, x3, x4, x5⟩)
    (first
      | (go_at_call_of 14 (Value.slice b1 l1 l1); refine (HC1.out _ (hS1.below (Below.refl _ _).drew)).mono ?_; rintro e wE ⟨rfl, hbE⟩; have hbE' : Below w1.heap.size w1 wE := (hbb.drew.trans (hbE.mono hbb.size)); have hBoxE := box_kept hbE' HS1.out HBX.out)
      | (go_at_call_of 14 (Value.slice b2 l2 l2); refine (HC2.out _ ((hS2.below (Below.refl _ _).drew).below hbE)).mono ?_; rintro e wF ⟨rfl, hbF⟩; have hbF' : Below w1.heap.size w1 wF := (hbE'.trans (hbF.mono hbE'.size)); have hBoxF := box_kept hbF' HS1.out HBX.out))
  replace hSg := (hSg.below (Below.refl _ _).drew).below hbE
  replace hSg := hSg.below hbF
  replace hSa := (hSa.below (Below.refl _ _).drew).below hbE
  replace hSa := hSa.below hbF
  replace hS3 := (hS3.below (Below.refl _ _).drew).below hbE
  replace hS3 := hS3.below hbF
  clear hbE hbE' hbF hBoxE hBoxF hbb x0 x1 x2 x3 x4 x5 hS1 hS2 HC1 HC2
  obtain ⟨x0, x1, x2, x3, x4, x5⟩ := box_kept hbF' HS1.out HBX.out
  go_wp2_with fail
  clear hmul hsum
  go_loopw [15] (fun ix wr => ∃ (i q : Nat), i ≤ l3 ∧ ix = .int .i64 i ∧ wr = wF.drewN q) (fun ix _ => l3 - (intOf ix).toNat)
  case atStart => exact ⟨0, 0, Nat.zero_le _, rfl, rfl⟩
  case round =>
    obtain ⟨i, q, hi, rfl, rfl⟩ := hrel
    by_cases hlt : i < l3
    · obtain ⟨y, hy⟩ : ∃ y, ts[i]? = some y := ⟨_, List.getElem?_eq_getElem (by rw [E3.out]; exact hlt)⟩
      have hyo : out[i]? = some y := by rw [HOUT.out, List.getElem?_append_left (by rw [E3.out]; exact hlt)]; exact hy
      obtain ⟨gb, go, hga, hgc⟩ := hSg.cells (by omega)
      obtain ⟨tb, tof, hta, htc⟩ := hS3.cells (by omega)
      subst hga
      subst hta
      have g0 := hgc _ _ (rowS_get out i 0 y hyo (by omega))
      have g1 := hgc _ _ (rowS_get out i 1 y hyo (by omega))
      have g2 := hgc _ _ (rowS_get out i 2 y hyo (by omega))
      have g3 := hgc _ _ (rowS_get out i 3 y hyo (by omega))
      have g4 := hgc _ _ (rowS_get out i 4 y hyo (by omega))
      have g5 := hgc _ _ (rowS_get out i 5 y hyo (by omega))
      have c0 := htc _ _ (rowS_get ts i 0 y hy (by omega))
      have c1 := htc _ _ (rowS_get ts i 1 y hy (by omega))
      have c2 := htc _ _ (rowS_get ts i 2 y hy (by omega))
      have c3 := htc _ _ (rowS_get ts i 3 y hy (by omega))
      have c4 := htc _ _ (rowS_get ts i 4 y hy (by omega))
      have c5 := htc _ _ (rowS_get ts i 5 y hy (by omega))
      rw [← Nat.add_assoc] at g0 g1 g2 g3 g4 g5 c0 c1 c2 c3 c4 c5
      rw [Nat.add_zero] at g0 c0
      have i0 : (0 : Int) ≤ (i : Int) := by omega
      have i1 : (i : Int) < (l3 : Int) := by omega
      have i2 : (i : Int) < (l3 : Int) + (P : Int) := by omega
      clear hgc htc hy hyo
      have hq23 := neq23
      have hg23 := grd23
      go_wp2_with fail
      go_quiet (fail)
      go_wp2
      go_roundw
      case rel => exact ⟨i + 1, _, by omega, by go_num, rfl⟩
      case measure => simp [intOf]; omega
    · obtain rfl : l3 = i := by omega
      have hgq : SliceOf (wF.drewN q) ga (l3 + P) 6 (rowS out) := hSg.below (below_drewN (Below.refl _ _) q)
      have haq : SliceOf (wF.drewN q) gl P 6 (rowS alo) := hSa.below (below_drewN (Below.refl _ _) q)
      have hbq : Below w1.heap.size w1 (wF.drewN q) := below_drewN hbF' q
      clear hSg hSa hbF' x0 x1 x2 x3 x4 x5 hS3
      generalize wF.drewN q = wd at hgq haq hbq ⊢
      obtain ⟨x0, x1, x2, x3, x4, x5⟩ := box_kept hbq HS1.out HBX.out
      go_wp2_with fail
      go_loopw [16] (fun ix wr => ∃ (i q : Nat), i ≤ P ∧ ix = .int .i64 i ∧ wr = wd.drewN q) (fun ix _ => P - (intOf ix).toNat)
      case atStart => exact ⟨0, 0, Nat.zero_le _, rfl, rfl⟩
      case round =>
        obtain ⟨i, q, hi, rfl, rfl⟩ := hrel
        by_cases hlt : i < P
        · obtain ⟨y, hy⟩ : ∃ y, alo[i]? = some y := ⟨_, List.getElem?_eq_getElem (by rw [HAL.out]; exact hlt)⟩
          have hyo : out[l3 + i]? = some y := by
            rw [HOUT.out, List.getElem?_append_right (by rw [E3.out]; omega), E3.out, Nat.add_sub_cancel_left, ← HALO.out]
            exact hy
          obtain ⟨f1, f2, rfl⟩ : ∃ f1 f2, y = mk3 s f1 f2 := prodL_mem (HALO.out ▸ List.mem_of_getElem? hy)
          obtain ⟨gb, go, hga, hgc⟩ := hgq.cells (by omega)
          obtain ⟨ab, ao, haa, hac⟩ := haq.cells (by omega)
          subst hga
          subst haa
          have g0 : wd.cell? ⟨gb, go + ((l3 + i) * 6 + 0), none⟩ = some (.string s.a.k) := hgc _ _ (rowS_get out (l3 + i) 0 (mk3 s f1 f2) hyo (by omega))
          have g1 : wd.cell? ⟨gb, go + ((l3 + i) * 6 + 1), none⟩ = some (.string s.a.v) := hgc _ _ (rowS_get out (l3 + i) 1 (mk3 s f1 f2) hyo (by omega))
          have g2 : wd.cell? ⟨gb, go + ((l3 + i) * 6 + 2), none⟩ = some (.string f1.k) := hgc _ _ (rowS_get out (l3 + i) 2 (mk3 s f1 f2) hyo (by omega))
          have g3 : wd.cell? ⟨gb, go + ((l3 + i) * 6 + 3), none⟩ = some (.string f1.v) := hgc _ _ (rowS_get out (l3 + i) 3 (mk3 s f1 f2) hyo (by omega))
          have g4 : wd.cell? ⟨gb, go + ((l3 + i) * 6 + 4), none⟩ = some (.string f2.k) := hgc _ _ (rowS_get out (l3 + i) 4 (mk3 s f1 f2) hyo (by omega))
          have g5 : wd.cell? ⟨gb, go + ((l3 + i) * 6 + 5), none⟩ = some (.string f2.v) := hgc _ _ (rowS_get out (l3 + i) 5 (mk3 s f1 f2) hyo (by omega))
          have c0 : wd.cell? ⟨ab, ao + (i * 6 + 0), none⟩ = some (.string s.a.k) := hac _ _ (rowS_get alo i 0 (mk3 s f1 f2) hy (by omega))
          have c1 : wd.cell? ⟨ab, ao + (i * 6 + 1), none⟩ = some (.string s.a.v) := hac _ _ (rowS_get alo i 1 (mk3 s f1 f2) hy (by omega))
          have c2 : wd.cell? ⟨ab, ao + (i * 6 + 2), none⟩ = some (.string f1.k) := hac _ _ (rowS_get alo i 2 (mk3 s f1 f2) hy (by omega))
          have c3 : wd.cell? ⟨ab, ao + (i * 6 + 3), none⟩ = some (.string f1.v) := hac _ _ (rowS_get alo i 3 (mk3 s f1 f2) hy (by omega))
          have c4 : wd.cell? ⟨ab, ao + (i * 6 + 4), none⟩ = some (.string f2.k) := hac _ _ (rowS_get alo i 4 (mk3 s f1 f2) hy (by omega))
          have c5 : wd.cell? ⟨ab, ao + (i * 6 + 5), none⟩ = some (.string f2.v) := hac _ _ (rowS_get alo i 5 (mk3 s f1 f2) hy (by omega))
          rw [← Nat.add_assoc] at g0 g1 g2 g3 g4 g5 c0 c1 c2 c3 c4 c5
          rw [Nat.add_zero] at g0 c0
          have i0 : (0 : Int) ≤ (i : Int) := by omega
          have i1 : (i : Int) < (P : Int) := by omega
          have i2 : (0 : Int) ≤ (l3 : Int) + (i : Int) := by omega
          have i3 : (l3 : Int) + (i : Int) < (l3 : Int) + (P : Int) := by omega
          have hq23 := neq23
          have hg23 := grd23
          have hq22 := neq22
          have hg22 := grd22
          clear hgc hac hy hyo
          go_wp2_with fail
          go_quiet (fail)
          go_wp2
          go_roundw
          case rel => exact ⟨i + 1, _, by omega, by go_num, rfl⟩
          case measure => simp [intOf]; omega
        · go_wp2
          go_ret
          exact ⟨rfl, FIN.out _ (below_drewN hbq _)⟩
end Go.Proofs.Qxb6604664a
