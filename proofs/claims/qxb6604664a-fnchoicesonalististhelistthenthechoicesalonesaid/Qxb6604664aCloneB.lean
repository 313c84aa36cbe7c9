import Derived.Test.Qxb6604664aClone
namespace Go.Proofs.Qxb6604664a
open Go.RowKit

set_option maxHeartbeats 1000000 in
theorem cloneSelectors_some (ad : Addr) (len cap g : Nat) (xs : List Value) (w : World) (hg : g = w.heap.size) (h : SliceOf w (some ad) len 6 xs) (hx : Strs xs) (hm : len ≤ 1048576) :
    Calls Try.prog 10 #[.slice (some ad) len cap] w fun e w' => e = .returned (.slice (some ⟨g, 0, none⟩) len len) ∧ w'.ownsRow g 23 6 (.slice (some ⟨g, 0, none⟩) len len) len xs ∧ Below w.heap.size w w' := by
  have q25 := fun (w : World) (a : Option Addr) (n c : Nat) => Lib.run_eql_slice_nil (P := Try.prog) w 25 23 a n c 0 0 Try.underlying25
  obtain ⟨w1, ys, hmk, hown, hb1, hs1⟩ := make_own Try.underlying25 Try.info23 w g len hg (by omega) (by unfold maxLen; omega)
  have HG : Hid (g = w.heap.size) := hg
  clear hs1 hg
  go_enter Try.func10, Try.ntmps10
  go_wp2
  go_loopw [4] (fun i wr => ∃ (k : Nat) (ys : List Value), k ≤ len ∧ i = .int .i64 k ∧ wr.ownsRow g 23 6 (.slice (some ⟨g, 0, none⟩) len len) len ys ∧ Hid (∀ j, j < k * 6 → ys[j]? = xs[j]?) ∧ Below w.heap.size w wr) (fun i _ => len - (intOf i).toNat)
  case atStart => exact ⟨0, ys, Nat.zero_le _, rfl, hown, fun j hj => by omega, hb1⟩
  case round =>
    clear hown hb1 hmk
    obtain ⟨k, ys, hk, rfl, hown, HF, hb⟩ := hrel
    by_cases hlt : k < len
    · obtain ⟨b, off, hab, hc⟩ := h.cells (by omega)
      cases hab
      have hl := h.len_eq
      have hyl := hown.1
      obtain ⟨u0, e0⟩ : ∃ u, xs[k * 6]? = some u := ⟨_, List.getElem?_eq_getElem (by omega)⟩
      obtain ⟨u1, e1⟩ : ∃ u, xs[k * 6 + 1]? = some u := ⟨_, List.getElem?_eq_getElem (by omega)⟩
      obtain ⟨u2, e2⟩ : ∃ u, xs[k * 6 + 2]? = some u := ⟨_, List.getElem?_eq_getElem (by omega)⟩
      obtain ⟨u3, e3⟩ : ∃ u, xs[k * 6 + 3]? = some u := ⟨_, List.getElem?_eq_getElem (by omega)⟩
      obtain ⟨u4, e4⟩ : ∃ u, xs[k * 6 + 4]? = some u := ⟨_, List.getElem?_eq_getElem (by omega)⟩
      obtain ⟨u5, e5⟩ : ∃ u, xs[k * 6 + 5]? = some u := ⟨_, List.getElem?_eq_getElem (by omega)⟩
      have c0 := hc _ _ e0
      have c1 := hc _ _ e1
      have c2 := hc _ _ e2
      have c3 := hc _ _ e3
      have c4 := hc _ _ e4
      have c5 := hc _ _ e5
      have bl : b < w.heap.size := World.block_lt_of_cell? _ _ c0
      rw [← hb.cell (p := ⟨b, _, none⟩) bl] at c0 c1 c2 c3 c4 c5
      rw [← Nat.add_assoc] at c1 c2 c3 c4 c5
      obtain ⟨s0, rfl⟩ := hx _ (List.mem_of_getElem? e0)
      obtain ⟨s1, rfl⟩ := hx _ (List.mem_of_getElem? e1)
      obtain ⟨s2, rfl⟩ := hx _ (List.mem_of_getElem? e2)
      obtain ⟨s3, rfl⟩ := hx _ (List.mem_of_getElem? e3)
      obtain ⟨s4, rfl⟩ := hx _ (List.mem_of_getElem? e4)
      obtain ⟨s5, rfl⟩ := hx _ (List.mem_of_getElem? e5)
      have HFN : Hid (∀ j, j < (k + 1) * 6 → ((((((ys.set (k * 6) (.string s0)).set (k * 6 + 1) (.string s1)).set (k * 6 + 2) (.string s2)).set (k * 6 + 3) (.string s3)).set (k * 6 + 4) (.string s4)).set (k * 6 + 5) (.string s5))[j]? = xs[j]?) := fill6 (ys := ys) (by omega) HF.out e0 e1 e2 e3 e4 e5
      have o2 := ((((((hown.stored (k * 6) (.string s0)).1.stored (k * 6 + 1) (.string s1)).1.stored (k * 6 + 2) (.string s2)).1.stored (k * 6 + 3) (.string s3)).1.stored (k * 6 + 4) (.string s4)).1.stored (k * 6 + 5) (.string s5)).1
      obtain ⟨y0, f0⟩ : ∃ u, wr.cell? ⟨g, k * 6, none⟩ = some u := ⟨_, (hown.cellAt _ (by omega)).trans (List.getElem?_eq_getElem (by omega))⟩
      obtain ⟨y1, f1⟩ : ∃ u, wr.cell? ⟨g, k * 6 + 1, none⟩ = some u := ⟨_, (hown.cellAt _ (by omega)).trans (List.getElem?_eq_getElem (by omega))⟩
      obtain ⟨y2, f2⟩ : ∃ u, wr.cell? ⟨g, k * 6 + 2, none⟩ = some u := ⟨_, (hown.cellAt _ (by omega)).trans (List.getElem?_eq_getElem (by omega))⟩
      obtain ⟨y3, f3⟩ : ∃ u, wr.cell? ⟨g, k * 6 + 3, none⟩ = some u := ⟨_, (hown.cellAt _ (by omega)).trans (List.getElem?_eq_getElem (by omega))⟩
      obtain ⟨y4, f4⟩ : ∃ u, wr.cell? ⟨g, k * 6 + 4, none⟩ = some u := ⟨_, (hown.cellAt _ (by omega)).trans (List.getElem?_eq_getElem (by omega))⟩
      obtain ⟨y5, f5⟩ : ∃ u, wr.cell? ⟨g, k * 6 + 5, none⟩ = some u := ⟨_, (hown.cellAt _ (by omega)).trans (List.getElem?_eq_getElem (by omega))⟩
      have z0 := hown.frozenAt (k * 6)
      have z1 := hown.frozenAt (k * 6 + 1)
      have z2 := hown.frozenAt (k * 6 + 2)
      have z3 := hown.frozenAt (k * 6 + 3)
      have z4 := hown.frozenAt (k * 6 + 4)
      have z5 := hown.frozenAt (k * 6 + 5)
      have i0 : (0 : Int) ≤ (k : Int) := by omega
      have i1 : (k : Int) < (len : Int) := by omega
      have hgb : w.heap.size ≤ g := by have := HG.out; omega
      have hb2 : Below w.heap.size w ((((((wr.setCell ⟨g, k * 6, none⟩ (.string s0)).setCell ⟨g, k * 6 + 1, none⟩ (.string s1)).setCell ⟨g, k * 6 + 2, none⟩ (.string s2)).setCell ⟨g, k * 6 + 3, none⟩ (.string s3)).setCell ⟨g, k * 6 + 4, none⟩ (.string s4)).setCell ⟨g, k * 6 + 5, none⟩ (.string s5)) :=
        (((((hb.setCell hgb _).setCell hgb _).setCell hgb _).setCell hgb _).setCell hgb _).setCell hgb _
      clear e0 e1 e2 e3 e4 e5 hc hl hyl hown hb HF
      go_wp2
      go_roundw
      case rel => exact ⟨k + 1, _, by omega, by go_num, o2, HFN, hb2⟩
      case measure => simp [intOf]; omega
    · go_wp2
      go_ret
      obtain rfl : k = len := by omega
      exact ⟨rfl, by rw [filled_all hown.1 h.len_eq HF.out] at hown; exact hown, hb⟩

set_option maxHeartbeats 1000000 in
theorem fieldsOf_some (ad : Addr) (len cap g : Nat) (xs : List Value) (w : World) (hg : g = w.heap.size) (h : SliceOf w (some ad) len 2 xs) (hx : Strs xs) (hm : len ≤ 1048576) :
    Calls Try.prog 15 #[.slice (some ad) len cap] w fun e w' => e = .returned (.slice (some ⟨g, 0, none⟩) len len) ∧ w'.ownsRow g 42 2 (.slice (some ⟨g, 0, none⟩) len len) len xs ∧ Below w.heap.size w w' := by
  have q24 := fun (w : World) (a : Option Addr) (n c : Nat) => Lib.run_eql_slice_nil (P := Try.prog) w 24 22 a n c 0 0 Try.underlying24
  obtain ⟨w1, ys, hmk, hown, hb1, hs1⟩ := make_own Try.underlying36 Try.info42 w g len hg (by omega) (by unfold maxLen; omega)
  have HG : Hid (g = w.heap.size) := hg
  clear hs1 hg
  go_enter Try.func15, Try.ntmps15
  go_wp2
  go_loopw [12] (fun i wr => ∃ (k : Nat) (ys : List Value), k ≤ len ∧ i = .int .i64 k ∧ wr.ownsRow g 42 2 (.slice (some ⟨g, 0, none⟩) len len) len ys ∧ Hid (∀ j, j < k * 2 → ys[j]? = xs[j]?) ∧ Below w.heap.size w wr) (fun i _ => len - (intOf i).toNat)
  case atStart => exact ⟨0, ys, Nat.zero_le _, rfl, hown, fun j hj => by omega, hb1⟩
  case round =>
    clear hown hb1 hmk
    obtain ⟨k, ys, hk, rfl, hown, HF, hb⟩ := hrel
    by_cases hlt : k < len
    · obtain ⟨b, off, hab, hc⟩ := h.cells (by omega)
      cases hab
      have hl := h.len_eq
      have hyl := hown.1
      obtain ⟨u0, e0⟩ : ∃ u, xs[k * 2]? = some u := ⟨_, List.getElem?_eq_getElem (by omega)⟩
      obtain ⟨u1, e1⟩ : ∃ u, xs[k * 2 + 1]? = some u := ⟨_, List.getElem?_eq_getElem (by omega)⟩
      have c0 := hc _ _ e0
      have c1 := hc _ _ e1
      have bl : b < w.heap.size := World.block_lt_of_cell? _ _ c0
      rw [← hb.cell (p := ⟨b, _, none⟩) bl] at c0 c1
      rw [← Nat.add_assoc] at c1
      obtain ⟨s0, rfl⟩ := hx _ (List.mem_of_getElem? e0)
      obtain ⟨s1, rfl⟩ := hx _ (List.mem_of_getElem? e1)
      have HN := fill2 (ys := ys) (by omega) HF.out e0 e1
      have HFN : Hid (∀ j, j < (k + 1) * 2 → ((ys.set (k * 2) (.string s0)).set (k * 2 + 1) (.string s1))[j]? = xs[j]?) := HN
      have o1 := (hown.stored (k * 2) (.string s0)).1
      have o2 := (o1.stored (k * 2 + 1) (.string s1)).1
      obtain ⟨y0, f0⟩ : ∃ u, wr.cell? ⟨g, k * 2, none⟩ = some u := ⟨_, (hown.cellAt _ (by omega)).trans (List.getElem?_eq_getElem (by omega))⟩
      obtain ⟨y1, f1⟩ : ∃ u, wr.cell? ⟨g, k * 2 + 1, none⟩ = some u := ⟨_, (hown.cellAt _ (by omega)).trans (List.getElem?_eq_getElem (by omega))⟩
      have z0 := hown.frozenAt (k * 2)
      have z1 := hown.frozenAt (k * 2 + 1)
      have i0 : (0 : Int) ≤ (k : Int) := by omega
      have i1 : (k : Int) < (len : Int) := by omega
      have hgl : g < wr.heap.size := World.block_lt_of_cell? _ _ f0
      have hb2 : Below w.heap.size w ((wr.setCell ⟨g, k * 2, none⟩ (.string s0)).setCell ⟨g, k * 2 + 1, none⟩ (.string s1)) := (hb.setCell (by have := HG.out; simp; omega) _).setCell (by have := HG.out; simp; omega) _
      clear e0 e1 hc hl hyl HN hown o1 hb HF
      go_wp2_with fail
      refine (fieldOf_any s0 s1 _).mono ?_
      rintro e w' ⟨rfl, rfl⟩
      go_wp2
      go_roundw
      case rel => exact ⟨k + 1, _, by omega, by go_num, (o2.alloc _).alloc _, HFN, below_al (below_al hb2 _) _⟩
      case measure => simp [intOf]; omega
    · go_wp2
      go_ret
      obtain rfl : k = len := by omega
      exact ⟨rfl, by rw [filled_all hown.1 h.len_eq HF.out] at hown; exact hown, hb⟩

theorem clonePairs_nil (w : World) : Calls Try.prog 9 #[.slice none 0 0] w fun e w' => e = .returned (.slice none 0 0) ∧ w' = w := by
  have q24 := fun (w : World) (a : Option Addr) (n c : Nat) => Lib.run_eql_slice_nil (P := Try.prog) w 24 22 a n c 0 0 Try.underlying24
  go_enter Try.func9, Try.ntmps9
  go_wp2
  go_ret
  exact ⟨rfl, rfl⟩
theorem fieldsOf_nil (w : World) : Calls Try.prog 15 #[.slice none 0 0] w fun e w' => e = .returned (.slice none 0 0) ∧ w' = w := by
  have q24 := fun (w : World) (a : Option Addr) (n c : Nat) => Lib.run_eql_slice_nil (P := Try.prog) w 24 22 a n c 0 0 Try.underlying24
  go_enter Try.func15, Try.ntmps15
  go_wp2
  go_ret
  exact ⟨rfl, rfl⟩
theorem cloneSelectors_nil (w : World) : Calls Try.prog 10 #[.slice none 0 0] w fun e w' => e = .returned (.slice none 0 0) ∧ w' = w := by
  have q25 := fun (w : World) (a : Option Addr) (n c : Nat) => Lib.run_eql_slice_nil (P := Try.prog) w 25 23 a n c 0 0 Try.underlying25
  go_enter Try.func10, Try.ntmps10
  go_wp2
  go_ret
  exact ⟨rfl, rfl⟩

/-- A fresh copy, nil or not. -/
theorem clonePairs_any (a : Option Addr) (len cap : Nat) (hn : a = none → len = 0 ∧ cap = 0) (xs : List Value) (w : World) (h : SliceOf w a len 2 xs) (hx : Strs xs) (hm : len ≤ 1048576) :
    ∃ a', Calls Try.prog 9 #[.slice a len cap] w fun e w' => e = .returned (.slice a' len len) ∧ SliceOf w' a' len 2 xs ∧ Below w.heap.size w w' := by
  cases a with
  | none =>
    obtain ⟨rfl, rfl⟩ := hn rfl
    exact ⟨none, (clonePairs_nil w).mono fun e w' ⟨h1, h2⟩ => by subst h2; exact ⟨h1, h, Below.refl _ _⟩⟩
  | some ad => exact ⟨_, (clonePairs_some ad len cap _ xs w rfl h hx hm).mono fun e w' ⟨h1, h2, h3⟩ => ⟨h1, SliceOf.of_own h2, h3⟩⟩
theorem fieldsOf_any (a : Option Addr) (len cap : Nat) (hn : a = none → len = 0 ∧ cap = 0) (xs : List Value) (w : World) (h : SliceOf w a len 2 xs) (hx : Strs xs) (hm : len ≤ 1048576) :
    ∃ a', Calls Try.prog 15 #[.slice a len cap] w fun e w' => e = .returned (.slice a' len len) ∧ SliceOf w' a' len 2 xs ∧ Below w.heap.size w w' := by
  cases a with
  | none =>
    obtain ⟨rfl, rfl⟩ := hn rfl
    exact ⟨none, (fieldsOf_nil w).mono fun e w' ⟨h1, h2⟩ => by subst h2; exact ⟨h1, h, Below.refl _ _⟩⟩
  | some ad => exact ⟨_, (fieldsOf_some ad len cap _ xs w rfl h hx hm).mono fun e w' ⟨h1, h2, h3⟩ => ⟨h1, SliceOf.of_own h2, h3⟩⟩
theorem cloneSelectors_any (a : Option Addr) (len cap : Nat) (hn : a = none → len = 0 ∧ cap = 0) (xs : List Value) (w : World) (h : SliceOf w a len 6 xs) (hx : Strs xs) (hm : len ≤ 1048576) :
    ∃ a', Calls Try.prog 10 #[.slice a len cap] w fun e w' => e = .returned (.slice a' len len) ∧ SliceOf w' a' len 6 xs ∧ Below w.heap.size w w' := by
  cases a with
  | none =>
    obtain ⟨rfl, rfl⟩ := hn rfl
    exact ⟨none, (cloneSelectors_nil w).mono fun e w' ⟨h1, h2⟩ => by subst h2; exact ⟨h1, h, Below.refl _ _⟩⟩
  | some ad => exact ⟨_, (cloneSelectors_some ad len cap _ xs w rfl h hx hm).mono fun e w' ⟨h1, h2, h3⟩ => ⟨h1, SliceOf.of_own h2, h3⟩⟩
end Go.Proofs.Qxb6604664a
