import Derived.Test.Qxb6604664aRows
import Derived.Maps.OwnSet
import Derived.WalkKit
import Derived.WalkSpells
import Derived.WalkLawsBesides
import Derived.RegionTactic
import Derived.ChangeAlike
import Derived.BigQuiet
import Derived.Deep.QuietTactic
import Derived.Deep.RegionHeld3
namespace Go.Proofs.Qxb6604664a
open Go.RowKit

/-! ### Pairs and selectors -/
structure Pr where
  k : ByteArray
  v : ByteArray
structure Sl where
  a : Pr
  b : Pr
  c : Pr
def Pr.cells (p : Pr) : List Value := [.string p.k, .string p.v]
def Sl.cells (s : Sl) : List Value := [.string s.a.k, .string s.a.v, .string s.b.k, .string s.b.v, .string s.c.k, .string s.c.v]
def rowP (ps : List Pr) : List Value := ps.flatMap Pr.cells
def rowS (ss : List Sl) : List Value := ss.flatMap Sl.cells

theorem row_length {α : Type} (f : α → List Value) (sz : Nat) (hf : ∀ x, (f x).length = sz) (xs : List α) : (xs.flatMap f).length = xs.length * sz := by
  induction xs with
  | nil => simp
  | cons x r ih => simp [hf, ih, Nat.add_mul]; omega
theorem row_get {α : Type} (f : α → List Value) (sz : Nat) (hf : ∀ x, (f x).length = sz) (xs : List α) (i j : Nat) (x : α) (h : xs[i]? = some x) (hj : j < sz) : (xs.flatMap f)[i * sz + j]? = (f x)[j]? := by
  induction xs generalizing i with
  | nil => simp at h
  | cons t r ih =>
    cases i with
    | zero =>
      simp at h; subst h
      simp only [List.flatMap_cons, Nat.zero_mul, Nat.zero_add]
      rw [List.getElem?_append_left (by rw [hf]; exact hj)]
    | succ i =>
      simp only [List.getElem?_cons_succ] at h
      have := ih i h
      simp only [List.flatMap_cons]
      rw [List.getElem?_append_right (by rw [hf, Nat.succ_mul]; omega)]
      have e : (i + 1) * sz + j - (f t).length = i * sz + j := by rw [hf, Nat.succ_mul]; omega
      rw [e]; exact this
theorem rowP_length (ps : List Pr) : (rowP ps).length = ps.length * 2 := row_length _ 2 (fun _ => rfl) ps
theorem rowS_length (ss : List Sl) : (rowS ss).length = ss.length * 6 := row_length _ 6 (fun _ => rfl) ss
theorem rowP_get (ps : List Pr) (i j : Nat) (x : Pr) (h : ps[i]? = some x) (hj : j < 2) : (rowP ps)[i * 2 + j]? = x.cells[j]? := row_get _ 2 (fun _ => rfl) ps i j x h hj
theorem rowS_get (ss : List Sl) (i j : Nat) (x : Sl) (h : ss[i]? = some x) (hj : j < 6) : (rowS ss)[i * 6 + j]? = x.cells[j]? := row_get _ 6 (fun _ => rfl) ss i j x h hj
theorem rowP_append (a b : List Pr) : rowP (a ++ b) = rowP a ++ rowP b := by simp [rowP]
theorem rowS_append (a b : List Sl) : rowS (a ++ b) = rowS a ++ rowS b := by simp [rowS]
/-- Every cell is a string. -/
def Strs (xs : List Value) : Prop := ∀ v ∈ xs, ∃ s : ByteArray, v = .string s
theorem strsP (ps : List Pr) : Strs (rowP ps) := by
  intro v hv
  simp only [rowP, List.mem_flatMap, Pr.cells] at hv
  obtain ⟨s, _, h⟩ := hv
  simp at h
  rcases h with rfl | rfl <;> exact ⟨_, rfl⟩
theorem strsS (ss : List Sl) : Strs (rowS ss) := by
  intro v hv
  simp only [rowS, List.mem_flatMap, Sl.cells] at hv
  obtain ⟨s, _, h⟩ := hv
  simp at h
  rcases h with rfl | rfl | rfl | rfl | rfl | rfl <;> exact ⟨_, rfl⟩
theorem Strs.one {xs : List Value} (h : Strs xs) : ∀ v ∈ xs, v.oneCell' = true := fun v hv => by
  obtain ⟨s, rfl⟩ := h v hv
  rfl

/-- What the walks are told of a slice: len elements of sz cells, the cells xs. -/
structure SliceOf (w : World) (a : Option Addr) (len sz : Nat) (xs : List Value) : Prop where
  len_eq : xs.length = len * sz
  most : len ≤ maxLen
  cells : 0 < len → ∃ b off, a = some ⟨b, off, none⟩ ∧ ∀ j v, xs[j]? = some v → w.cell? ⟨b, off + j, none⟩ = some v

theorem SliceOf.below {w w' : World} {a : Option Addr} {len sz : Nat} {xs : List Value} (h : SliceOf w a len sz xs) (hb : Below w.heap.size w w') : SliceOf w' a len sz xs :=
  ⟨h.len_eq, h.most, fun hp => by
    obtain ⟨b, off, rfl, hc⟩ := h.cells hp
    exact ⟨b, off, rfl, fun j v hv => by
      have := hc j v hv
      rw [hb.cell (p := ⟨b, off + j, none⟩) (World.block_lt_of_cell? _ _ this)]
      exact this⟩⟩

/-- An owned row is such a slice. -/
theorem SliceOf.of_own {w : World} {B e sz g n cap : Nat} {xs : List Value} (h : w.ownsRow B e sz (.slice (some ⟨g, 0, none⟩) n cap) n xs) : SliceOf w (some ⟨g, 0, none⟩) n sz xs := by
  refine ⟨h.1, ?_, fun _ => ⟨g, 0, rfl, fun j v hv => ?_⟩⟩
  · rcases h.2 with ⟨e, _⟩ | ⟨g', cap', cur, e, _, _, h1, h2, _⟩
    · cases e
    · cases e; omega
  · have hj : j < n * sz := by rw [← h.1]; exact (List.getElem?_eq_some_iff.1 hv).1
    rw [Nat.zero_add, h.cellAt j hj]
    exact hv

theorem below_al {w w' : World} (h : Below w.heap.size w w') (o : Obj) : Below w.heap.size w (w'.alloc o) := h.alloc h.size o

/-- It hands back a bool | an int, whichever. -/
def RetBool (e : Ending) : Prop := ∃ r, e = .returned (.bool r)
def RetInt (e : Ending) : Prop := ∃ r, e = .returned (.int .i64 r)

/-! ### The leaves -/
set_option maxHeartbeats 400000 in
theorem fieldOf_any (k v : ByteArray) (w : World) :
    Calls Try.prog 18 #[.agg #[.string k, .string v]] w fun e w' => e = .returned (.agg #[.string k, .string v]) ∧ w' = (w.alloc (.cells #[.string k, .string v] 22)).alloc (.cells #[.string k, .string v] 42) := by
  go_enter Try.func18, Try.ntmps18
  go_wp2
  exact bodyPost_ret (v := .agg #[.string k, .string v]) (by simp [results, Try.results18, go_sem]) rfl ⟨rfl, rfl⟩

set_option maxHeartbeats 400000 in
theorem selectorBytes_any (x0 x1 x2 x3 x4 x5 : ByteArray) (w : World) :
    Calls Try.prog 6 #[.agg #[.string x0, .string x1, .string x2, .string x3, .string x4, .string x5]] w fun e w' => RetInt e ∧ w' = w.alloc (.cells #[.string x0, .string x1, .string x2, .string x3, .string x4, .string x5] 23) := by
  go_enter Try.func6, Try.ntmps6
  go_wp2
  go_ret
  exact ⟨⟨_, rfl⟩, rfl⟩

set_option maxHeartbeats 400000 in
theorem selectorsOf_any (x0 x1 x2 x3 x4 x5 : ByteArray) (w : World) :
    Calls Try.prog 16 #[.agg #[.string x0, .string x1, .string x2, .string x3, .string x4, .string x5]] w fun e w' => e = .returned (.agg #[.string x0, .string x1, .string x2, .string x3, .string x4, .string x5]) ∧ Below w.heap.size w w' := by
  go_enter Try.func16, Try.ntmps16
  go_wp2_with fail
  go_region_held3 (fun w' => w'.cell? ⟨w.heap.size, 0, none⟩ = some (.string x0) ∧ w'.cell? ⟨w.heap.size, 1, none⟩ = some (.string x1) ∧ w'.cell? ⟨w.heap.size, 2, none⟩ = some (.string x2) ∧ w'.cell? ⟨w.heap.size, 3, none⟩ = some (.string x3) ∧ w'.cell? ⟨w.heap.size, 4, none⟩ = some (.string x4) ∧ w'.cell? ⟨w.heap.size, 5, none⟩ = some (.string x5)) (simp [go_sem])
    (first | (go_at_call 18; refine (fieldOf_any _ _ _).mono ?_; rintro e w' ⟨rfl, rfl⟩))
  go_wp2
  exact bodyPost_ret (v := .agg #[.string x0, .string x1, .string x2, .string x3, .string x4, .string x5]) (by simp [results, Try.results16, go_sem]) rfl ⟨rfl, (below_al (below_al (below_al (below_al (below_al (below_al (below_al (below_al (Below.refl _ _) _) _) _) _) _) _) _) _).drew⟩

set_option maxHeartbeats 400000 in
theorem pairsBytes_any (a : Option Addr) (len cap : Nat) (xs : List Value) (w : World) (h : SliceOf w a len 2 xs) (hx : Strs xs) :
    Calls Try.prog 7 #[.slice a len cap] w fun e w' => RetInt e ∧ ∃ n, w' = w.drewN n := by
  have hm := h.most
  unfold maxLen at hm
  go_enter Try.func7, Try.ntmps7
  go_wp2
  go_loopw [3, 4] (fun z i wr => ∃ (k : Nat) (n : Int) (q : Nat), k ≤ len ∧ i = .int .i64 k ∧ z = .int .i64 n ∧ wr = w.drewN q) (fun _ i _ => len - (intOf i).toNat)
  case atStart => exact ⟨0, _, 0, Nat.zero_le _, rfl, rfl, rfl⟩
  case round =>
    obtain ⟨k, n, q, hk, rfl, rfl, rfl⟩ := hrel
    by_cases hlt : k < len
    · obtain ⟨b, off, rfl, hc⟩ := h.cells (by omega)
      have hl := h.len_eq
      obtain ⟨u0, e0⟩ : ∃ u, xs[k * 2]? = some u := ⟨_, List.getElem?_eq_getElem (by omega)⟩
      obtain ⟨u1, e1⟩ : ∃ u, xs[k * 2 + 1]? = some u := ⟨_, List.getElem?_eq_getElem (by omega)⟩
      have c0 := hc _ _ e0
      have c1 := hc _ _ e1
      obtain ⟨s0, rfl⟩ := hx _ (List.mem_of_getElem? e0)
      obtain ⟨s1, rfl⟩ := hx _ (List.mem_of_getElem? e1)
      rw [← Nat.add_assoc] at c1
      clear e0 e1 hc hl
      go_wp2
      go_quiet (fail)
      go_wp2
      go_roundw
      case rel => exact ⟨k + 1, _, _, by omega, by go_num, rfl, rfl⟩
      case measure => simp [intOf]; omega
    · go_wp2
      go_ret
      exact ⟨⟨_, rfl⟩, q, rfl⟩
end Go.Proofs.Qxb6604664a
