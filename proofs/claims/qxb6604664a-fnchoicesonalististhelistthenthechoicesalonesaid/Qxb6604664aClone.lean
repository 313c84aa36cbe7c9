import Derived.Test.Qxb6604664aBytesB
import Derived.OwnWalk
namespace Go.Proofs.Qxb6604664a
open Go.RowKit

theorem Try.info22 : (Try.prog.info? 22).map (fun i => (i.zero, i.size, i.bytes)) = some (some (.agg #[.string ByteArray.empty, .string ByteArray.empty]), 2, 32) := by kernel_rfl
theorem Try.info42 : (Try.prog.info? 42).map (fun i => (i.zero, i.size, i.bytes)) = some (some (.agg #[.string ByteArray.empty, .string ByteArray.empty]), 2, 32) := by kernel_rfl
theorem Try.info23 : (Try.prog.info? 23).map (fun i => (i.zero, i.size, i.bytes)) = some (some (.agg #[.string ByteArray.empty, .string ByteArray.empty, .string ByteArray.empty, .string ByteArray.empty, .string ByteArray.empty, .string ByteArray.empty]), 6, 96) := by kernel_rfl
theorem Try.info44 : (Try.prog.info? 44).map (fun i => (i.zero, i.size, i.bytes)) = some (some (.agg #[.string ByteArray.empty, .string ByteArray.empty, .string ByteArray.empty, .string ByteArray.empty, .string ByteArray.empty, .string ByteArray.empty]), 6, 96) := by kernel_rfl

/-- 'make([]T, n)': a row of the call's own, in block g. -/
theorem make_own {t e : TypeId} {z : Value} {size bytes : Nat} (ht : Try.prog.underlying t = some (.slice e)) (hinfo : (Try.prog.info? e).map (fun i => (i.zero, i.size, i.bytes)) = some (some z, size, bytes)) (w : World) (g n : Nat) (hg : g = w.heap.size) (hb : bytes * n ≤ 281474976710656) (hn : n ≤ maxLen) :
    ∃ w' ys, (Instr.makeSlice t (.int .i64 (n : Int)) (.int .i64 (n : Int))).run Try.prog w = .ok (.slice (some ⟨g, 0, none⟩) n n) w' ∧
      w'.ownsRow g e size (.slice (some ⟨g, 0, none⟩) n n) n ys ∧ Below w.heap.size w w' ∧ w'.heap.size = g + 1 := by
  subst hg
  obtain ⟨i0, hi, hz0, hz1, hz2⟩ := info_parts hinfo
  subst hz1 hz2
  have hr := run_make (P := Try.prog) w t e i0 z ht hi hz0 .i64 .i64 n n (by omega) (by omega) (by rw [← Int.natCast_mul]; omega) (by simp [maxLen] at hn; omega)
  simp only [Int.toNat_natCast] at hr
  exact ⟨_, _, hr, World.ownsRow_lit w _ n (Nat.le_refl _) hn (size_madeCells _ _), below_al (Below.refl _ _) _, by simp⟩

theorem get_set_far {l : List Value} {i j : Nat} (h : i ≠ j) (u : Value) : (l.set i u)[j]? = l[j]? := List.getElem?_set_ne h
theorem get_set_at {l : List Value} {i : Nat} (h : i < l.length) (u : Value) : (l.set i u)[i]? = some u := List.getElem?_set_self h

/-- Two cells stored at place k of a row that agrees with xs up to there. -/
theorem fill2 {ys xs : List Value} {k : Nat} {u0 u1 : Value} (hl : k * 2 + 1 < ys.length) (h : ∀ j, j < k * 2 → ys[j]? = xs[j]?) (e0 : xs[k * 2]? = some u0) (e1 : xs[k * 2 + 1]? = some u1) :
    ∀ j, j < (k + 1) * 2 → ((ys.set (k * 2) u0).set (k * 2 + 1) u1)[j]? = xs[j]? := by
  intro j hj
  by_cases h1 : j = k * 2 + 1
  · subst h1; rw [get_set_at (by simpa using hl), e1]
  · rw [get_set_far (Ne.symm h1)]
    by_cases h0 : j = k * 2
    · subst h0; rw [get_set_at (by omega), e0]
    · rw [get_set_far (Ne.symm h0)]
      exact h j (by omega)
theorem fill6 {ys xs : List Value} {k : Nat} {u0 u1 u2 u3 u4 u5 : Value} (hl : k * 6 + 5 < ys.length) (h : ∀ j, j < k * 6 → ys[j]? = xs[j]?) (e0 : xs[k * 6]? = some u0) (e1 : xs[k * 6 + 1]? = some u1) (e2 : xs[k * 6 + 2]? = some u2) (e3 : xs[k * 6 + 3]? = some u3) (e4 : xs[k * 6 + 4]? = some u4) (e5 : xs[k * 6 + 5]? = some u5) :
    ∀ j, j < (k + 1) * 6 → ((((((ys.set (k * 6) u0).set (k * 6 + 1) u1).set (k * 6 + 2) u2).set (k * 6 + 3) u3).set (k * 6 + 4) u4).set (k * 6 + 5) u5)[j]? = xs[j]? := by
  intro j hj
  by_cases h5 : j = k * 6 + 5
  · subst h5; rw [get_set_at (by simpa using hl), e5]
  rw [get_set_far (Ne.symm h5)]
  by_cases h4 : j = k * 6 + 4
  · subst h4; rw [get_set_at (by simp; omega), e4]
  rw [get_set_far (Ne.symm h4)]
  by_cases h3 : j = k * 6 + 3
  · subst h3; rw [get_set_at (by simp; omega), e3]
  rw [get_set_far (Ne.symm h3)]
  by_cases h2 : j = k * 6 + 2
  · subst h2; rw [get_set_at (by simp; omega), e2]
  rw [get_set_far (Ne.symm h2)]
  by_cases h1 : j = k * 6 + 1
  · subst h1; rw [get_set_at (by simp; omega), e1]
  rw [get_set_far (Ne.symm h1)]
  by_cases h0 : j = k * 6
  · subst h0; rw [get_set_at (by omega), e0]
  rw [get_set_far (Ne.symm h0)]
  exact h j (by omega)
theorem filled_all {ys xs : List Value} {n : Nat} (h1 : ys.length = n) (h2 : xs.length = n) (h : ∀ j, j < n → ys[j]? = xs[j]?) : ys = xs := by
  apply List.ext_getElem?
  intro j
  by_cases hj : j < n
  · exact h j hj
  · rw [List.getElem?_eq_none (by omega), List.getElem?_eq_none (by omega)]

set_option maxHeartbeats 1000000 in
theorem clonePairs_some (ad : Addr) (len cap g : Nat) (xs : List Value) (w : World) (hg : g = w.heap.size) (h : SliceOf w (some ad) len 2 xs) (hx : Strs xs) (hm : len ≤ 1048576) :
    Calls Try.prog 9 #[.slice (some ad) len cap] w fun e w' => e = .returned (.slice (some ⟨g, 0, none⟩) len len) ∧ w'.ownsRow g 22 2 (.slice (some ⟨g, 0, none⟩) len len) len xs ∧ Below w.heap.size w w' := by
  have q24 := fun (w : World) (a : Option Addr) (n c : Nat) => Lib.run_eql_slice_nil (P := Try.prog) w 24 22 a n c 0 0 Try.underlying24
  obtain ⟨w1, ys, hmk, hown, hb1, hs1⟩ := make_own Try.underlying24 Try.info22 w g len hg (by omega) (by unfold maxLen; omega)
  have HG : Hid (g = w.heap.size) := hg
  clear hs1 hg
  go_enter Try.func9, Try.ntmps9
  go_wp2
  go_loopw [4] (fun i wr => ∃ (k : Nat) (ys : List Value), k ≤ len ∧ i = .int .i64 k ∧ wr.ownsRow g 22 2 (.slice (some ⟨g, 0, none⟩) len len) len ys ∧ Hid (∀ j, j < k * 2 → ys[j]? = xs[j]?) ∧ Below w.heap.size w wr) (fun i _ => len - (intOf i).toNat)
  case atStart => exact ⟨0, ys, Nat.zero_le _, rfl, hown, fun j hj => by omega, hb1⟩
  case round =>
    clear hown hb1 hmk
    obtain ⟨k, ys, hk, rfl, hown, HF, hb⟩ := hrel
    by_cases hlt : k < len
    · obtain ⟨b, off, hab, hc⟩ := h.cells (by omega)
      cases hab
      have hl := h.len_eq
      have hyl := hown.1
      obtain ⟨u0, e0⟩ : ∃ u, xs[k * 2]? = some u := ⟨_, List.getElem?_eq_getElem (by omega)⟩
      obtain ⟨u1, e1⟩ : ∃ u, xs[k * 2 + 1]? = some u := ⟨_, List.getElem?_eq_getElem (by omega)⟩
      have c0 := hc _ _ e0
      have c1 := hc _ _ e1
      have bl : b < w.heap.size := World.block_lt_of_cell? _ _ c0
      rw [← hb.cell (p := ⟨b, _, none⟩) bl] at c0 c1
      rw [← Nat.add_assoc] at c1
      obtain ⟨s0, rfl⟩ := hx _ (List.mem_of_getElem? e0)
      obtain ⟨s1, rfl⟩ := hx _ (List.mem_of_getElem? e1)
      have HN := fill2 (ys := ys) (by omega) HF.out e0 e1
      have HFN : Hid (∀ j, j < (k + 1) * 2 → ((ys.set (k * 2) (.string s0)).set (k * 2 + 1) (.string s1))[j]? = xs[j]?) := HN
      have o1 := (hown.stored (k * 2) (.string s0)).1
      have o2 := (o1.stored (k * 2 + 1) (.string s1)).1
      obtain ⟨y0, f0⟩ : ∃ u, wr.cell? ⟨g, k * 2, none⟩ = some u := ⟨_, (hown.cellAt _ (by omega)).trans (List.getElem?_eq_getElem (by omega))⟩
      obtain ⟨y1, f1⟩ : ∃ u, wr.cell? ⟨g, k * 2 + 1, none⟩ = some u := ⟨_, (hown.cellAt _ (by omega)).trans (List.getElem?_eq_getElem (by omega))⟩
      have z0 := hown.frozenAt (k * 2)
      have z1 := hown.frozenAt (k * 2 + 1)
      have i0 : (0 : Int) ≤ (k : Int) := by omega
      have i1 : (k : Int) < (len : Int) := by omega
      have hb2 : Below w.heap.size w ((wr.setCell ⟨g, k * 2, none⟩ (.string s0)).setCell ⟨g, k * 2 + 1, none⟩ (.string s1)) := (hb.setCell (by have := HG.out; simp; omega) _).setCell (by have := HG.out; simp; omega) _
      clear e0 e1 hc hl hyl HN hown o1 hb HF
      go_wp2
      go_roundw
      case rel => exact ⟨k + 1, _, by omega, by go_num, o2, HFN, hb2⟩
      case measure => simp [intOf]; omega
    · go_wp2
      go_ret
      obtain rfl : k = len := by omega
      exact ⟨rfl, by rw [filled_all hown.1 h.len_eq HF.out] at hown; exact hown, hb⟩
end Go.Proofs.Qxb6604664a
