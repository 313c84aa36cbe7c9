import Derived.Test.Qxb6604664aEq
namespace Go.Proofs.Qxb6604664a
open Go.RowKit Go.Maps

theorem wrap64_small {x : Int} (h0 : 0 ≤ x) (h1 : x ≤ 1000000000000) : IntKind.i64.wrap x = x := by
  rw [IntKind.wrap_i64]
  omega
theorem mul_small {a b P : Nat} (hP : P = b * a) (hl : P ≤ 16777216) : IntKind.i64.wrap ((a : Int) * (b : Int)) = (P : Int) := by
  have hc : (a : Int) * (b : Int) = (P : Int) := by rw [hP, Int.natCast_mul, Int.mul_comm]
  rw [hc]
  exact wrap64_small (by omega) (by omega)
theorem sum_small {a b : Nat} (ha : a ≤ 4096) (hb : b ≤ 16777216) : IntKind.i64.wrap ((a : Int) + (b : Int)) = (a : Int) + (b : Int) := wrap64_small (by omega) (by omega)

set_option maxRecDepth 20000 in
set_option maxHeartbeats 2000000 in
theorem appends_any (s : Sl) (gs : ByteArray) (a1 a2 a3 : Option Addr) (l1 c1 l2 c2 l3 c3 : Nat) (v1 v2 : List Pr) (ts : List Sl) (w : World) (hgs : gs.size ≤ maxLen) (hst : s.a.v.size ≤ maxLen)
    (h1 : SliceOf w a1 l1 2 (rowP v1)) (e1 : v1.length = l1) (n1 : a1 = none → l1 = 0 ∧ c1 = 0) (h2 : SliceOf w a2 l2 2 (rowP v2)) (e2 : v2.length = l2) (n2 : a2 = none → l2 = 0 ∧ c2 = 0)
    (h3 : SliceOf w a3 l3 6 (rowS ts)) (e3 : ts.length = l3) (n3 : a3 = none → l3 = 0 ∧ c3 = 0) :
    Calls Try.prog 3 #[.agg #[.string s.a.k, .string s.a.v, .string s.b.k, .string s.b.v, .string s.c.k, .string s.c.v], .string gs, .slice a1 l1 c1, .slice a2 l2 c2, .slice a3 l3 c3] w fun e w' => e = .returned (.bool true) ∧ Below w.heap.size w w' := by
  have q1 := h1.most
  have q2 := h2.most
  have q3 := h3.most
  have HGS : Hid (gs.size ≤ maxLen) := hgs
  unfold maxLen at q1 q2 q3 hgs
  have E1 : Hid (v1.length = l1) := e1
  have E2 : Hid (v2.length = l2) := e2
  have E3 : Hid (ts.length = l3) := e3
  clear e1 e2 e3
  obtain ⟨w1, hw1⟩ : ∃ w1, w1 = w.alloc (.cells #[.string s.a.k, .string s.a.v, .string s.b.k, .string s.b.v, .string s.c.k, .string s.c.v] 23) := ⟨_, rfl⟩
  have hbx : Below w.heap.size w w1 := by rw [hw1]; exact below_al (Below.refl _ _) _
  have HS1 : Hid (w1.heap.size = w.heap.size + 1) := by rw [hw1]; exact (by simp : (w.alloc (.cells #[.string s.a.k, .string s.a.v, .string s.b.k, .string s.b.v, .string s.c.k, .string s.c.v] 23)).heap.size = w.heap.size + 1)
  have hbox : w1.cell? ⟨w.heap.size, 0, none⟩ = some (.string s.a.k) ∧ w1.cell? ⟨w.heap.size, 1, none⟩ = some (.string s.a.v) ∧ w1.cell? ⟨w.heap.size, 2, none⟩ = some (.string s.b.k) ∧ w1.cell? ⟨w.heap.size, 3, none⟩ = some (.string s.b.v) ∧ w1.cell? ⟨w.heap.size, 4, none⟩ = some (.string s.c.k) ∧ w1.cell? ⟨w.heap.size, 5, none⟩ = some (.string s.c.v) := by
    rw [hw1]; simp [go_sem]
  have HBX : Hid (w1.cell? ⟨w.heap.size, 0, none⟩ = some (.string s.a.k) ∧ w1.cell? ⟨w.heap.size, 1, none⟩ = some (.string s.a.v) ∧ w1.cell? ⟨w.heap.size, 2, none⟩ = some (.string s.b.k) ∧ w1.cell? ⟨w.heap.size, 3, none⟩ = some (.string s.b.v) ∧ w1.cell? ⟨w.heap.size, 4, none⟩ = some (.string s.c.k) ∧ w1.cell? ⟨w.heap.size, 5, none⟩ = some (.string s.c.v)) := hbox
  clear hbox
  replace h1 := h1.below hbx
  replace h2 := h2.below hbx
  replace h3 := h3.below hbx
  have FIN : Hid (∀ w', Below w1.heap.size w1 w' → Below w.heap.size w w') := fun w' hb => hbx.trans (hb.mono hbx.size)
  go_enter Try.func3, Try.ntmps3
  go_wp2_with fail
  rw [← hw1]
  clear hw1 hbx
  refine (bytes5_any s.a.k s.a.v s.b.k s.b.v s.c.k s.c.v gs a1 a2 a3 l1 l2 l3 c1 c2 c3 _ _ _ w1 h1 (strsP v1) h2 (strsP v2) h3 (strsS ts)).mono ?_
  rintro e w2 ⟨⟨r, rfl⟩, hb2⟩
  cases r
  · go_wp2
    go_ret
    exact ⟨rfl, FIN.out _ hb2⟩
  by_cases t0 : 65536 < gs.size
  · go_wp2
    go_ret
    exact ⟨rfl, FIN.out _ hb2⟩
  by_cases t1 : 4096 < l1
  · go_wp2
    go_ret
    exact ⟨rfl, FIN.out _ hb2⟩
  by_cases t2 : 4096 < l2
  · go_wp2
    go_ret
    exact ⟨rfl, FIN.out _ hb2⟩
  by_cases t3 : 4096 < l3
  · go_wp2
    go_ret
    exact ⟨rfl, FIN.out _ hb2⟩
  obtain ⟨x0, x1, x2, x3, x4, x5⟩ := box_kept hb2 HS1.out HBX.out
  go_wp2_with fail
  refine (selectorBytes_any s.a.k s.a.v s.b.k s.b.v s.c.k s.c.v _).mono ?_
  rintro e w3 ⟨⟨r0, rfl⟩, hw3⟩
  have hb3 : Below w1.heap.size w1 w3 := by rw [hw3]; exact hb2.alloc hb2.size _
  clear hw3 x0 x1 x2 x3 x4 x5 hb2
  go_wp2_with fail
  refine (pairsBytes_any a1 l1 c1 (rowP v1) w3 (h1.below hb3) (strsP v1)).mono ?_
  rintro e w4 ⟨⟨r1, rfl⟩, qn, hw4⟩
  have hb4 : Below w1.heap.size w1 w4 := by rw [hw4]; exact below_drewN hb3 _
  clear hw4 hb3
  go_wp2_with fail
  refine (pairsBytes_any a2 l2 c2 (rowP v2) w4 (h2.below hb4) (strsP v2)).mono ?_
  rintro e w5 ⟨⟨r2, rfl⟩, qm, hw5⟩
  have hb5 : Below w1.heap.size w1 w5 := by rw [hw5]; exact below_drewN hb4 _
  clear hw5 hb4
  go_wp2_with fail
  refine (selectorsBytes_any a3 l3 c3 (rowS ts) w5 (h3.below hb5) (strsS ts)).mono ?_
  rintro e w6 ⟨⟨r3, rfl⟩, hb6⟩
  replace hb6 : Below w1.heap.size w1 w6 := hb5.trans (hb6.mono hb5.size)
  clear hb5
  go_wp2_with fail
  iterate 2 (focus (go_ret; exact ⟨rfl, FIN.out _ hb6⟩))
  rename_i hW1 hW2 K1 A1 K2 A2
  clear hW1 hW2
  obtain ⟨b1, hc1⟩ := clonePairs_any a1 l1 c1 n1 (rowP v1) w6 (h1.below hb6) (strsP v1) (by omega)
  refine hc1.mono ?_
  rintro e w7 ⟨rfl, hS1, hb7⟩
  replace hb7 : Below w1.heap.size w1 w7 := hb6.trans (hb7.mono hb6.size)
  clear hc1 hb6
  go_wp2_with fail
  obtain ⟨b2, hc2⟩ := clonePairs_any a2 l2 c2 n2 (rowP v2) w7 (h2.below hb7) (strsP v2) (by omega)
  refine hc2.mono ?_
  rintro e w8 ⟨rfl, hS2, hb8⟩
  replace hS1 := hS1.below hb8
  replace hb8 : Below w1.heap.size w1 w8 := hb7.trans (hb8.mono hb7.size)
  clear hc2 hb7
  go_wp2_with fail
  obtain ⟨b3, hc3⟩ := cloneSelectors_any a3 l3 c3 n3 (rowS ts) w8 (h3.below hb8) (strsS ts) (by omega)
  refine hc3.mono ?_
  rintro e w9 ⟨rfl, hS3, hb9⟩
  replace hS1 := hS1.below hb9
  replace hS2 := hS2.below hb9
  replace hb9 : Below w1.heap.size w1 w9 := hb8.trans (hb9.mono hb8.size)
  clear hc3 hb8 h1 h2 h3 n1 n2 n3
  obtain ⟨x0, x1, x2, x3, x4, x5⟩ := box_kept hb9 HS1.out HBX.out
  go_wp2_with fail
  obtain ⟨O1, HO1⟩ : ∃ O1, Hid (O1 = optsK s 1 (gs.toList == s.a.v.toList) v1) := ⟨_, rfl⟩
  obtain ⟨O2, HO2⟩ : ∃ O2, Hid (O2 = optsK s 2 (gs.toList == s.a.v.toList) v2) := ⟨_, rfl⟩
  have hO1l : O1.length ≤ 4096 := by rw [HO1.out]; exact opts_len _ _ _ _ (by rw [E1.out]; omega)
  have hO2l : O2.length ≤ 4096 := by rw [HO2.out]; exact opts_len _ _ _ _ (by rw [E2.out]; omega)
  obtain ⟨out, hout⟩ : ∃ out, out = ts ++ prodL s O1 O2 := ⟨_, rfl⟩
  have hol : out.length = l3 + O2.length * O1.length := by rw [hout, List.length_append, prodL_length, E3.out]
  refine (zzchoices_any s gs b1 b2 b3 l1 l1 l2 l2 l3 l3 v1 v2 ts out w9 (by rw [hout, HO1.out, HO2.out, prod_eq]) HGS.out hst hS1 E1.out (fun e => by subst e; exact ⟨hS1.none_len, hS1.none_len⟩) (by omega) hS2 E2.out (fun e => by subst e; exact ⟨hS2.none_len, hS2.none_len⟩) (by omega) hS3 E3.out (fun e => by subst e; exact ⟨hS3.none_len, hS3.none_len⟩) (by omega)).mono ?_
  rintro e wa ⟨ga, rfl, hSg, hba⟩
  obtain ⟨P, hP⟩ : ∃ P, P = O2.length * O1.length := ⟨_, rfl⟩
  have hPl : P ≤ 16777216 := by rw [hP]; exact Nat.le_trans (Nat.mul_le_mul hO2l hO1l) (by omega)
  have hmul : IntKind.i64.wrap ((O1.length : Int) * (O2.length : Int)) = (P : Int) := mul_small hP hPl
  have hsum : IntKind.i64.wrap ((l3 : Int) + (P : Int)) = (l3 : Int) + (P : Int) := sum_small (Nat.le_of_not_lt t3) hPl
  rw [hol, ← hP] at hSg
  rw [hol, ← hP]
  have HP : Hid (P = O2.length * O1.length) := hP
  clear hP
  replace hS1 := hS1.below hba
  replace hS2 := hS2.below hba
  replace hS3 := hS3.below hba
  replace hba : Below w1.heap.size w1 wa := hb9.trans (hba.mono hb9.size)
  have HOUT : Hid (out = ts ++ prodL s O1 O2) := hout
  clear hb9 x0 x1 x2 x3 x4 x5 hout hol
  obtain ⟨x0, x1, x2, x3, x4, x5⟩ := box_kept hba HS1.out HBX.out
  go_wp2_with fail
  refine (options_1 s (gs.toList == s.a.v.toList) b1 l1 l1 v1 wa E1.out hS1).mono ?_
  rintro e wb ⟨p1, d1, rfl, hT1, hbb⟩
  rw [← HO1.out] at hT1 ⊢
  replace hSg := hSg.below hbb
  replace hS2 := hS2.below hbb
  replace hS3 := hS3.below hbb
  replace hbb : Below w1.heap.size w1 wb := hba.trans (hbb.mono hba.size)
  clear hba x0 x1 x2 x3 x4 x5 hS1
  obtain ⟨x0, x1, x2, x3, x4, x5⟩ := box_kept hbb HS1.out HBX.out
  go_wp2_with fail
  refine (options_2 s (gs.toList == s.a.v.toList) b2 l2 l2 v2 wb E2.out hS2).mono ?_
  rintro e wc ⟨p2, d2, rfl, hT2, hbc⟩
  rw [← HO2.out] at hT2 ⊢
  replace hSg := hSg.below hbc
  replace hT1 := hT1.below hbc
  replace hS3 := hS3.below hbc
  replace hbc : Below w1.heap.size w1 wc := hbb.trans (hbc.mono hbb.size)
  clear hbb x0 x1 x2 x3 x4 x5 hS2 HO1 HO2
  obtain ⟨x0, x1, x2, x3, x4, x5⟩ := box_kept hbc HS1.out HBX.out
  go_wp2_with fail
  clear hmul hsum
  go_loopw [15] (fun ix wr => ∃ (i q : Nat), i ≤ l3 ∧ ix = .int .i64 i ∧ wr = wc.drewN q) (fun ix _ => l3 - (intOf ix).toNat)
  case atStart => exact ⟨0, 0, Nat.zero_le _, rfl, rfl⟩
  case round =>
    obtain ⟨i, q, hi, rfl, rfl⟩ := hrel
    by_cases hlt : i < l3
    · obtain ⟨y, hy⟩ : ∃ y, ts[i]? = some y := ⟨_, List.getElem?_eq_getElem (by rw [E3.out]; exact hlt)⟩
      have hyo : out[i]? = some y := by rw [HOUT.out, List.getElem?_append_left (by rw [E3.out]; exact hlt)]; exact hy
      obtain ⟨gb, go, hga, hgc⟩ := hSg.cells (by omega)
      obtain ⟨tb, tof, hta, htc⟩ := hS3.cells (by omega)
      subst hga
      subst hta
      have g0 := hgc _ _ (rowS_get out i 0 y hyo (by omega))
      have g1 := hgc _ _ (rowS_get out i 1 y hyo (by omega))
      have g2 := hgc _ _ (rowS_get out i 2 y hyo (by omega))
      have g3 := hgc _ _ (rowS_get out i 3 y hyo (by omega))
      have g4 := hgc _ _ (rowS_get out i 4 y hyo (by omega))
      have g5 := hgc _ _ (rowS_get out i 5 y hyo (by omega))
      have c0 := htc _ _ (rowS_get ts i 0 y hy (by omega))
      have c1 := htc _ _ (rowS_get ts i 1 y hy (by omega))
      have c2 := htc _ _ (rowS_get ts i 2 y hy (by omega))
      have c3 := htc _ _ (rowS_get ts i 3 y hy (by omega))
      have c4 := htc _ _ (rowS_get ts i 4 y hy (by omega))
      have c5 := htc _ _ (rowS_get ts i 5 y hy (by omega))
      rw [← Nat.add_assoc] at g0 g1 g2 g3 g4 g5 c0 c1 c2 c3 c4 c5
      rw [Nat.add_zero] at g0 c0
      have i0 : (0 : Int) ≤ (i : Int) := by omega
      have i1 : (i : Int) < (l3 : Int) := by omega
      have i2 : (i : Int) < (l3 : Int) + (P : Int) := by omega
      clear hgc htc hy hyo
      have hq23 := neq23
      have hg23 := grd23
      go_wp2_with fail
      go_quiet (fail)
      go_wp2
      go_roundw
      case rel => exact ⟨i + 1, _, by omega, by go_num, rfl⟩
      case measure => simp [intOf]; omega
    · obtain rfl : l3 = i := by omega
      have hgq : SliceOf (wc.drewN q) ga (l3 + P) 6 (rowS out) := hSg.below (below_drewN (Below.refl _ _) q)
      have hq1 : SliceOf (wc.drewN q) p1 O1.length 2 (rowP O1) := hT1.below (below_drewN (Below.refl _ _) q)
      have hq2 : SliceOf (wc.drewN q) p2 O2.length 2 (rowP O2) := hT2.below (below_drewN (Below.refl _ _) q)
      have hbq : Below w1.heap.size w1 (wc.drewN q) := below_drewN hbc q
      clear hSg hT1 hT2 hbc x0 x1 x2 x3 x4 x5 hS3
      generalize wc.drewN q = wd at hgq hq1 hq2 hbq ⊢
      go_wp2_with fail
      go_loopw [16, 17] (fun nx jx wr => ∃ (j : Nat), j ≤ O2.length ∧ jx = .int .i64 j ∧ nx = .int .i64 ((l3 + j * O1.length : Nat) : Int) ∧ Below wd.heap.size wd wr) (fun _ jx _ => O2.length - (intOf jx).toNat)
      case atStart => exact ⟨0, Nat.zero_le _, rfl, by go_num, Below.refl _ _⟩
      case round =>
        obtain ⟨j, hj, rfl, rfl, hbr⟩ := hrel
        by_cases hjt : j < O2.length
        · obtain ⟨f2, hf2⟩ : ∃ f2, O2[j]? = some f2 := ⟨_, List.getElem?_eq_getElem hjt⟩
          obtain ⟨N0, hN0⟩ : ∃ N0, N0 = l3 + j * O1.length := ⟨_, rfl⟩
          rw [← hN0]
          have HN0 : Hid (N0 = l3 + j * O1.length) := hN0
          have hN0l : N0 ≤ 16781312 := by rw [hN0]; have := Nat.mul_le_mul (Nat.le_trans hj hO2l) hO1l; omega
          clear hN0
          obtain ⟨wo, hwo⟩ : ∃ wo : World, wo = wr := ⟨_, rfl⟩
          subst hwo
          go_wp2_with fail
          go_loopw [16, 18] (fun nx ix wr => ∃ (i : Nat), i ≤ O1.length ∧ ix = .int .i64 i ∧ nx = .int .i64 ((N0 + i : Nat) : Int) ∧ Below wd.heap.size wd wr) (fun _ ix _ => O1.length - (intOf ix).toNat)
          case atStart => exact ⟨0, Nat.zero_le _, rfl, rfl, hbr⟩
          case round =>
            clear hbr
            obtain ⟨i, hi, rfl, rfl, hbr⟩ := hrel
            by_cases hit : i < O1.length
            · obtain ⟨f1, hf1⟩ : ∃ f1, O1[i]? = some f1 := ⟨_, List.getElem?_eq_getElem hit⟩
              have hidx : out[N0 + i]? = some (mk3 s f1 f2) := by
                rw [HOUT.out, List.getElem?_append_right (by rw [E3.out, HN0.out]; omega), E3.out, HN0.out, Nat.add_assoc, Nat.add_sub_cancel_left]
                exact prodL_get s O1 O2 j i f1 f2 hf2 hf1
              have hNi : N0 + i < l3 + P := by
                have := (List.getElem?_eq_some_iff.1 hidx).1
                rw [HOUT.out, List.length_append, prodL_length, E3.out, ← HP.out] at this
                exact this
              obtain ⟨gb, go, hga, hgc⟩ := (hgq.below hbr).cells (by omega)
              obtain ⟨ob1, oo1, hoa1, hoc1⟩ := (hq1.below hbr).cells (by omega)
              obtain ⟨ob2, oo2, hoa2, hoc2⟩ := (hq2.below hbr).cells (by omega)
              subst hga
              subst hoa1
              subst hoa2
              have g0 : wr.cell? ⟨gb, go + ((N0 + i) * 6 + 0), none⟩ = some (.string s.a.k) := hgc _ _ (rowS_get out (N0 + i) 0 (mk3 s f1 f2) hidx (by omega))
              have g1 : wr.cell? ⟨gb, go + ((N0 + i) * 6 + 1), none⟩ = some (.string s.a.v) := hgc _ _ (rowS_get out (N0 + i) 1 (mk3 s f1 f2) hidx (by omega))
              have g2 : wr.cell? ⟨gb, go + ((N0 + i) * 6 + 2), none⟩ = some (.string f1.k) := hgc _ _ (rowS_get out (N0 + i) 2 (mk3 s f1 f2) hidx (by omega))
              have g3 : wr.cell? ⟨gb, go + ((N0 + i) * 6 + 3), none⟩ = some (.string f1.v) := hgc _ _ (rowS_get out (N0 + i) 3 (mk3 s f1 f2) hidx (by omega))
              have g4 : wr.cell? ⟨gb, go + ((N0 + i) * 6 + 4), none⟩ = some (.string f2.k) := hgc _ _ (rowS_get out (N0 + i) 4 (mk3 s f1 f2) hidx (by omega))
              have g5 : wr.cell? ⟨gb, go + ((N0 + i) * 6 + 5), none⟩ = some (.string f2.v) := hgc _ _ (rowS_get out (N0 + i) 5 (mk3 s f1 f2) hidx (by omega))
              rw [← Nat.add_assoc] at g0 g1 g2 g3 g4 g5
              rw [Nat.add_zero] at g0
              have o10 := hoc1 _ _ (rowP_get O1 i 0 f1 hf1 (by omega))
              have o11 := hoc1 _ _ (rowP_get O1 i 1 f1 hf1 (by omega))
              have o20 := hoc2 _ _ (rowP_get O2 j 0 f2 hf2 (by omega))
              have o21 := hoc2 _ _ (rowP_get O2 j 1 f2 hf2 (by omega))
              rw [← Nat.add_assoc] at o10 o11 o20 o21
              rw [Nat.add_zero] at o10 o20
              obtain ⟨x0, x1, x2, x3, x4, x5⟩ := box_kept (hbq.trans (hbr.mono hbq.size)) HS1.out HBX.out
              have i0 : (0 : Int) ≤ (i : Int) := by omega
              have i1 : (i : Int) < (O1.length : Int) := by omega
              have j0 : (0 : Int) ≤ (j : Int) := by omega
              have j1 : (j : Int) < (O2.length : Int) := by omega
              have k0 : (0 : Int) ≤ (N0 : Int) + (i : Int) := by omega
              have k1 : (N0 : Int) + (i : Int) < (l3 : Int) + (P : Int) := by omega
              have bg : gb < wr.heap.size := World.block_lt_of_cell? _ _ g0
              have bo1 : ob1 < wr.heap.size := World.block_lt_of_cell? _ _ o10
              have bo2 : ob2 < wr.heap.size := World.block_lt_of_cell? _ _ o20
              have bw : w.heap.size < wr.heap.size := World.block_lt_of_cell? _ _ x0
              have hq23 := neq23
              have hg23 := grd23
              clear hgc hoc1 hoc2 hidx hf1
              go_wp2_with fail
              go_quiet (fail)
              go_wp2
              go_roundw
              case rel => exact ⟨i + 1, by omega, by go_num, by go_num, below_drewN (below_al hbr _) _⟩
              case measure => simp [intOf]; omega
            · obtain rfl : i = O1.length := by omega
              go_wp2
              go_roundw
              case rel => exact ⟨j + 1, by omega, by go_num, by rw [HN0.out, Nat.succ_mul, ← Nat.add_assoc], hbr⟩
              case measure => simp [intOf]; omega
        · go_wp2
          go_ret
          exact ⟨rfl, FIN.out _ (hbq.trans (hbr.mono hbq.size))⟩
end Go.Proofs.Qxb6604664a
