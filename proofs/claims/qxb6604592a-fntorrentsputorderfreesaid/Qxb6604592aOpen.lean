import Derived.Test.Qxb6604592aHeld
import Derived.ProofKit
import Derived.OpenShut
import Derived.ChangeOld
import Derived.Deep.Slices
namespace Go.Proofs.Qxb6604592a
open Go.ChangeShapes Go.WideShapes Go.ChangeAt Go.RowKit

theorem cells30 : Try.prog.cellsOf 30 = 5 := by kernel_rfl
theorem cells9 : Try.prog.cellsOf 9 = 1 := by kernel_rfl
theorem cells2 : Try.prog.cellsOf 2 = 1 := by kernel_rfl
theorem cells3 : Try.prog.cellsOf 3 = 1 := by kernel_rfl

/-- One element's cells are a step's. -/
theorem step_of_trod {H : Type} {enc : TypeId × Value → H} {W : World} {base : Nat} {sp : Nat → Bool} {held : Bool} {fuel : Nat} {cs : List Value} {x : DataW H × List MemPlace} (h : DataW.trod enc Try.prog W base sp held fuel 30 cs = some x) :
    ∃ s : St, cs = s.cells ∧ s.path.size ≤ maxLen ∧ s.name.size ≤ maxLen := by
  obtain ⟨xs, n, _, _, hl, hxs, hf⟩ := DataW.trod_struct Try.underlying30 h
  rw [cells30] at hl
  match cs, hl with
  | [v0, v1, v2, v3, v4], _ =>
    have hx : ∀ i, i < 5 → ∃ y, xs[i]? = some y := fun i hi => ⟨_, List.getElem?_eq_getElem (by rw [hxs]; exact hi)⟩
    obtain ⟨y0, e0⟩ := hx 0 (by omega)
    obtain ⟨y1, e1⟩ := hx 1 (by omega)
    obtain ⟨y2, e2⟩ := hx 2 (by omega)
    obtain ⟨y3, e3⟩ := hx 3 (by omega)
    obtain ⟨y4, e4⟩ := hx 4 (by omega)
    have h0 := (hf 0 _ rfl).trans e0
    have h1 := (hf 1 _ rfl).trans e1
    have h2 := (hf 2 _ rfl).trans e2
    have h3 := (hf 3 _ rfl).trans e3
    have h4 := (hf 4 _ rfl).trans e4
    simp [cells9, cells2, cells3] at h0 h1 h2 h3 h4
    obtain ⟨p, ep, _, zp⟩ := DataW.trod_string Try.underlying9 h0
    obtain ⟨q, eq, _, zq⟩ := DataW.trod_string Try.underlying9 h1
    obtain ⟨a, ea, _, _⟩ := DataW.trod_int Try.underlying2 h2
    obtain ⟨b, eb, _, _⟩ := DataW.trod_int Try.underlying2 h3
    obtain ⟨c, ec, _, _⟩ := DataW.trod_int Try.underlying3 h4
    simp at ep eq ea eb ec
    subst ep eq ea eb ec
    exact ⟨⟨p, q, a, b, c⟩, rfl, zp, zq⟩

/-- A slice of steps that can be read: it is nil, or leads to a row of steps. -/
theorem steps_of_trod {H : Type} {enc : TypeId × Value → H} {W : World} {sp : Nat → Bool} {held : Bool} {fuel : Nat} {a : Option Addr} {len cap : Nat} {x : DataW H × List MemPlace} (h : DataW.trod enc Try.prog W 0 sp held fuel 22 [.slice a len cap] = some x) :
    (a = none ∧ len = 0 ∧ cap = 0) ∨ ∃ ad ss, a = some ad ∧ IsSteps W ad len ss := by
  rcases Deep.open_slice Try.underlying22 h with ⟨hcs, _⟩ | ⟨ad, l, c, m, n, D, Pl, hcs, _, hlc, hcm, hmm, _, hel⟩
  · simp at hcs
    exact .inl hcs
  · simp at hcs
    obtain ⟨rfl, rfl, rfl⟩ := hcs
    have hlm : len ≤ m := by rw [hmm]; split <;> omega
    rw [cells30] at hel
    have : Inhabited St := ⟨⟨ByteArray.empty, ByteArray.empty, 0, 0, 0⟩⟩
    obtain ⟨f, hf⟩ := Deep.choose_lt (α := St) (n := len) (p := fun i s => (∀ r, r < 5 → W.cell? ((ad.add (i * 5)).add r) = s.cells[r]?) ∧ s.path.size ≤ maxLen ∧ s.name.size ≤ maxLen) (fun i hi => by
      obtain ⟨cs', h1, h2⟩ := hel i (by omega)
      obtain ⟨s, rfl, z⟩ := step_of_trod h2
      exact ⟨s, (World.cells?_some h1).2.2, z⟩)
    refine .inr ⟨ad, (List.range len).map f, rfl, by simp, fun j v hv => ?_, fun s hs => ?_, by omega⟩
    · have hj : j < len * 5 := by
        have := (List.getElem?_eq_some_iff.1 hv).1
        rw [rowOf_length] at this
        simpa using this
      have hi : j / 5 < len := by omega
      have hr := rowOf_get ((List.range len).map f) (j / 5) (j % 5) (f (j / 5)) (by simp [hi]) (by omega)
      rw [show j / 5 * 5 + j % 5 = j by omega, hv] at hr
      have h1 := (hf (j / 5) hi).1 (j % 5) (by omega)
      rw [Deep.add_add, show j / 5 * 5 + j % 5 = j by omega] at h1
      rw [h1, ← hr]
    · simp at hs
      obtain ⟨i, hi, rfl⟩ := hs
      exact (hf i hi).2
end Go.Proofs.Qxb6604592a
