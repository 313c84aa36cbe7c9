import Derived.Test.Qxb6602650aRows
import Derived.Maps.OwnSet
import Derived.WalkKit
import Derived.WalkSpells
import Derived.WalkLawsBesides
import Derived.RegionTactic
import Derived.ChangeAlike
import Derived.BigQuiet
import Derived.Deep.QuietTactic
import Derived.OwnWalk
namespace Go.Proofs.Qxb6602650a
open Go.RowKit

/-- Is c one of JSON's four spaces? -/
def isSp (c : Int) : Bool := decide (c = 32 ∨ c = 9 ∨ c = 10 ∨ c = 13)
def RetB (e : Ending) : Prop := ∃ r, e = .returned (.bool r)

set_option maxHeartbeats 400000 in
theorem isSpace_any (c : Int) (w : World) : Calls Try.prog 17 #[.int .u8 c] w fun e w' => e = .returned (.bool (isSp c)) ∧ w' = w := by
  by_cases a1 : c = 32
  · subst a1
    go_enter Try.func17, Try.ntmps17
    go_wp2
    go_ret
    exact ⟨rfl, rfl⟩
  by_cases a2 : c = 9
  · subst a2
    go_enter Try.func17, Try.ntmps17
    go_wp2
    go_ret
    exact ⟨rfl, rfl⟩
  by_cases a3 : c = 10
  · subst a3
    go_enter Try.func17, Try.ntmps17
    go_wp2
    go_ret
    exact ⟨rfl, rfl⟩
  by_cases a4 : c = 13
  · subst a4
    go_enter Try.func17, Try.ntmps17
    go_wp2
    go_ret
    exact ⟨rfl, rfl⟩
  have t1 : (c == 32) = false := by simpa using a1
  have t2 : (c == 9) = false := by simpa using a2
  have t3 : (c == 10) = false := by simpa using a3
  have t4 : (c == 13) = false := by simpa using a4
  have HB : Hid (isSp c = false) := decide_eq_false (by omega)
  clear a1 a2 a3 a4
  go_enter Try.func17, Try.ntmps17
  go_wp2
  go_ret
  exact ⟨by rw [HB.out]; rfl, rfl⟩

set_option maxHeartbeats 400000 in
theorem zzBytes_any (a : Option Addr) (len cap : Nat) (a1 : Int) (w : World) (hm : len ≤ maxLen) :
    Calls Try.prog 14 #[.slice a len cap, .int .i64 a1] w fun e w' => RetB e ∧ w' = w := by
  unfold maxLen at hm
  by_cases h : 1048576 < len
  · go_enter Try.func14, Try.ntmps14
    go_wp2
    go_ret
    exact ⟨⟨_, rfl⟩, rfl⟩
  · go_enter Try.func14, Try.ntmps14
    go_wp2
    go_ret
    exact ⟨⟨_, rfl⟩, rfl⟩

/-! ### The clone -/
theorem Try.info5 : (Try.prog.info? 5).map (fun i => (i.zero, i.size, i.bytes)) = some (some (.int .u8 0), 1, 1) := by kernel_rfl

/-- What the walks are told of a slice of bytes: the numbers xs. -/
structure BytesOf (w : World) (a : Option Addr) (len : Nat) (xs : List Int) : Prop where
  len_eq : xs.length = len
  cells : 0 < len → ∃ b off, a = some ⟨b, off, none⟩ ∧ ∀ j v, xs[j]? = some v → w.cell? ⟨b, off + j, none⟩ = some (.int .u8 v)

theorem BytesOf.below {w w' : World} {a : Option Addr} {len : Nat} {xs : List Int} (h : BytesOf w a len xs) (hb : Below w.heap.size w w') : BytesOf w' a len xs :=
  ⟨h.len_eq, fun hp => by
    obtain ⟨b, off, rfl, hc⟩ := h.cells hp
    exact ⟨b, off, rfl, fun j v hv => by
      have := hc j v hv
      rw [hb.cell (p := ⟨b, off + j, none⟩) (World.block_lt_of_cell? _ _ this)]
      exact this⟩⟩

theorem below_al {w w' : World} (h : Below w.heap.size w w') (o : Obj) : Below w.heap.size w (w'.alloc o) := h.alloc h.size o

/-- 'make([]T, n)': a row of the call's own, in block g. -/
theorem make_own {t e : TypeId} {z : Value} {size bytes : Nat} (ht : Try.prog.underlying t = some (.slice e)) (hinfo : (Try.prog.info? e).map (fun i => (i.zero, i.size, i.bytes)) = some (some z, size, bytes)) (w : World) (g n : Nat) (hg : g = w.heap.size) (hb : bytes * n ≤ 281474976710656) (hn : n ≤ maxLen) :
    ∃ w' ys, (Instr.makeSlice t (.int .i64 (n : Int)) (.int .i64 (n : Int))).run Try.prog w = .ok (.slice (some ⟨g, 0, none⟩) n n) w' ∧
      w'.ownsRow g e size (.slice (some ⟨g, 0, none⟩) n n) n ys ∧ Below w.heap.size w w' ∧ w'.heap.size = g + 1 := by
  subst hg
  obtain ⟨i0, hi, hz0, hz1, hz2⟩ := info_parts hinfo
  subst hz1 hz2
  have hr := run_make (P := Try.prog) w t e i0 z ht hi hz0 .i64 .i64 n n (by omega) (by omega) (by rw [← Int.natCast_mul]; omega) (by simp [maxLen] at hn; omega)
  simp only [Int.toNat_natCast] at hr
  exact ⟨_, _, hr, World.ownsRow_lit w _ n (Nat.le_refl _) hn (size_madeCells _ _), below_al (Below.refl _ _) _, by simp⟩

def bvs (xs : List Int) : List Value := xs.map (.int .u8)
theorem fill1 {ys : List Value} {xs : List Int} {k : Nat} {u : Int} (hl : k < ys.length) (h : ∀ j, j < k → ys[j]? = (bvs xs)[j]?) (e : xs[k]? = some u) :
    ∀ j, j < k + 1 → (ys.set k (.int .u8 u))[j]? = (bvs xs)[j]? := by
  intro j hj
  by_cases h0 : j = k
  · subst h0; rw [List.getElem?_set_self hl]; simp [bvs, e]
  · rw [List.getElem?_set_ne (Ne.symm h0)]
    exact h j (by omega)
theorem filled_all {ys xs : List Value} {n : Nat} (h1 : ys.length = n) (h2 : xs.length = n) (h : ∀ j, j < n → ys[j]? = xs[j]?) : ys = xs := by
  apply List.ext_getElem?
  intro j
  by_cases hj : j < n
  · exact h j hj
  · rw [List.getElem?_eq_none (by omega), List.getElem?_eq_none (by omega)]

theorem BytesOf.of_own {w : World} {B g n cap : Nat} {xs : List Int} (h : w.ownsRow B 5 1 (.slice (some ⟨g, 0, none⟩) n cap) n (bvs xs)) : BytesOf w (some ⟨g, 0, none⟩) n xs := by
  have hl : xs.length = n := by have := h.1; simpa [bvs] using this
  refine ⟨hl, fun _ => ⟨g, 0, rfl, fun j v hv => ?_⟩⟩
  have hj : j < n := by rw [← hl]; exact (List.getElem?_eq_some_iff.1 hv).1
  rw [Nat.zero_add, h.cellAt j (by omega)]
  simp [bvs, hv]

def ClonePost (len : Nat) (xs : List Int) (w : World) (e : Ending) (w' : World) : Prop := ∃ a cap, e = .returned (.slice a len cap) ∧ BytesOf w' a len xs ∧ Below w.heap.size w w'

set_option maxHeartbeats 400000 in
theorem clone_nil (w : World) : Calls Try.prog 15 #[.slice none 0 0] w fun e w' => ClonePost 0 [] w e w' := by
  have q27 := fun (w : World) (a : Option Addr) (n c : Nat) => Lib.run_eql_slice_nil (P := Try.prog) w 27 5 a n c 0 0 Try.underlying27
  go_enter Try.func15, Try.ntmps15
  go_wp2
  go_ret
  exact ⟨none, 0, rfl, ⟨rfl, fun h => absurd h (by omega)⟩, Below.refl _ _⟩

set_option maxHeartbeats 1000000 in
theorem clone_some (ad : Addr) (len cap g : Nat) (xs : List Int) (w : World) (hg : g = w.heap.size) (h : BytesOf w (some ad) len xs) (hm : len ≤ 1048576) :
    Calls Try.prog 15 #[.slice (some ad) len cap] w fun e w' => ClonePost len xs w e w' := by
  have q27 := fun (w : World) (a : Option Addr) (n c : Nat) => Lib.run_eql_slice_nil (P := Try.prog) w 27 5 a n c 0 0 Try.underlying27
  obtain ⟨w1, ys, hmk, hown, hb1, hs1⟩ := make_own Try.underlying27 Try.info5 w g len hg (by omega) (by unfold maxLen; omega)
  have HG : Hid (g = w.heap.size) := hg
  clear hs1 hg
  go_enter Try.func15, Try.ntmps15
  go_wp2
  go_loopw [4] (fun i wr => ∃ (k : Nat) (ys : List Value), k ≤ len ∧ i = .int .i64 k ∧ wr.ownsRow g 5 1 (.slice (some ⟨g, 0, none⟩) len len) len ys ∧ Hid (∀ j, j < k → ys[j]? = (bvs xs)[j]?) ∧ Below w.heap.size w wr) (fun i _ => len - (intOf i).toNat)
  case atStart => exact ⟨0, ys, Nat.zero_le _, rfl, hown, fun j hj => by omega, hb1⟩
  case round =>
    clear hown hb1 hmk
    obtain ⟨k, ys, hk, rfl, hown, HF, hb⟩ := hrel
    by_cases hlt : k < len
    · obtain ⟨b, off, hab, hc⟩ := h.cells (by omega)
      cases hab
      have hl := h.len_eq
      have hyl := hown.1
      obtain ⟨u0, e0⟩ : ∃ u, xs[k]? = some u := ⟨_, List.getElem?_eq_getElem (by omega)⟩
      have c0 := hc _ _ e0
      have bl : b < w.heap.size := World.block_lt_of_cell? _ _ c0
      rw [← hb.cell (p := ⟨b, _, none⟩) bl] at c0
      have HN := fill1 (ys := ys) (by omega) HF.out e0
      have HFN : Hid (∀ j, j < k + 1 → (ys.set k (.int .u8 u0))[j]? = (bvs xs)[j]?) := HN
      have o1 := (hown.stored k (.int .u8 u0)).1
      obtain ⟨y0, f0⟩ : ∃ u, wr.cell? ⟨g, k, none⟩ = some u := ⟨_, (hown.cellAt _ (by omega)).trans (List.getElem?_eq_getElem (by omega))⟩
      have z0 := hown.frozenAt k
      have i0 : (0 : Int) ≤ (k : Int) := by omega
      have i1 : (k : Int) < (len : Int) := by omega
      have hb2 : Below w.heap.size w (wr.setCell ⟨g, k, none⟩ (.int .u8 u0)) := (hb.setCell (by have := HG.out; simp; omega) _)
      clear e0 hc hl hyl HN hown hb HF
      go_wp2
      go_roundw
      case rel => exact ⟨k + 1, _, by omega, by go_num, o1, HFN, hb2⟩
      case measure => simp [intOf]; omega
    · go_wp2
      go_ret
      obtain rfl : k = len := by omega
      exact ⟨some ⟨g, 0, none⟩, k, rfl, by rw [filled_all (n := k) (by have := hown.1; omega) (by simp [bvs, h.len_eq]) HF.out] at hown; exact BytesOf.of_own hown, hb⟩
end Go.Proofs.Qxb6602650a
