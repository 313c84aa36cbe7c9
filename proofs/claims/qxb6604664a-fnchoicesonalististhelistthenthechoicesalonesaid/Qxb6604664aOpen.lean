import Derived.Test.Qxb6604664aBase
import Derived.ProofKit
import Derived.OpenShut
import Derived.ChangeOld
import Derived.Deep.Slices
namespace Go.Proofs.Qxb6604664a
open Go.ChangeShapes Go.WideShapes Go.ChangeAt Go.RowKit

theorem ocells9 : Try.prog.cellsOf 9 = 1 := by kernel_rfl
theorem ocells22 : Try.prog.cellsOf 22 = 2 := by kernel_rfl
theorem ocells23 : Try.prog.cellsOf 23 = 6 := by kernel_rfl

section
variable {H : Type} {enc : TypeId × Value → H} {W : World} {base : Nat} {sp : Nat → Bool} {held : Bool}

theorem pair_of_trod {fuel : Nat} {cs : List Value} {x : DataW H × List MemPlace} (h : DataW.trod enc Try.prog W base sp held fuel 22 cs = some x) : ∃ p : Pr, cs = p.cells ∧ p.k.size ≤ maxLen ∧ p.v.size ≤ maxLen := by
  obtain ⟨xs, n, _, _, hl, hxs, hf⟩ := DataW.trod_array Try.underlying22 h
  rw [ocells22] at hl
  match cs, hl with
  | [v0, v1], _ =>
    obtain ⟨y0, e0⟩ : ∃ y, xs[0]? = some y := ⟨_, List.getElem?_eq_getElem (by omega)⟩
    obtain ⟨y1, e1⟩ : ∃ y, xs[1]? = some y := ⟨_, List.getElem?_eq_getElem (by omega)⟩
    have h0 := (hf 0 (by omega)).trans e0
    have h1 := (hf 1 (by omega)).trans e1
    simp [ocells9] at h0 h1
    obtain ⟨p, ep, _, zp⟩ := DataW.trod_string Try.underlying9 h0
    obtain ⟨q, eq, _, zq⟩ := DataW.trod_string Try.underlying9 h1
    simp at ep eq
    subst ep eq
    exact ⟨⟨p, q⟩, rfl, zp, zq⟩

theorem sel_of_trod {fuel : Nat} {cs : List Value} {x : DataW H × List MemPlace} (h : DataW.trod enc Try.prog W base sp held fuel 23 cs = some x) : ∃ s : Sl, cs = s.cells ∧ s.a.v.size ≤ maxLen := by
  obtain ⟨xs, n, _, _, hl, hxs, hf⟩ := DataW.trod_array Try.underlying23 h
  rw [ocells23] at hl
  match cs, hl with
  | [v0, v1, v2, v3, v4, v5], _ =>
    obtain ⟨y0, e0⟩ : ∃ y, xs[0]? = some y := ⟨_, List.getElem?_eq_getElem (by omega)⟩
    obtain ⟨y1, e1⟩ : ∃ y, xs[1]? = some y := ⟨_, List.getElem?_eq_getElem (by omega)⟩
    obtain ⟨y2, e2⟩ : ∃ y, xs[2]? = some y := ⟨_, List.getElem?_eq_getElem (by omega)⟩
    have h0 := (hf 0 (by omega)).trans e0
    have h1 := (hf 1 (by omega)).trans e1
    have h2 := (hf 2 (by omega)).trans e2
    simp [ocells22] at h0 h1 h2
    obtain ⟨p, ep, _, zp⟩ := pair_of_trod h0
    obtain ⟨q, eq, _, _⟩ := pair_of_trod h1
    obtain ⟨r, er, _, _⟩ := pair_of_trod h2
    simp [Pr.cells] at ep eq er
    obtain ⟨rfl, rfl⟩ := ep
    obtain ⟨rfl, rfl⟩ := eq
    obtain ⟨rfl, rfl⟩ := er
    exact ⟨⟨p, q, r⟩, rfl, zp⟩

theorem slice_of_trod {t e : TypeId} {sz : Nat} {α : Type} (d : α) (cells : α → List Value) (hcl : ∀ x, (cells x).length = sz) (hsz : 0 < sz) (ht : Try.prog.underlying t = some (.slice e)) (hc : Try.prog.cellsOf e = sz)
    (one : ∀ {fuel : Nat} {cs : List Value} {x : DataW H × List MemPlace}, DataW.trod enc Try.prog W 0 sp held fuel e cs = some x → ∃ p : α, cs = cells p)
    {fuel : Nat} {a : Option Addr} {len cap : Nat} {x : DataW H × List MemPlace} (h : DataW.trod enc Try.prog W 0 sp held fuel t [.slice a len cap] = some x) :
    (a = none → len = 0 ∧ cap = 0) ∧ ∃ vs : List α, vs.length = len ∧ SliceOf W a len sz (vs.flatMap cells) := by
  rcases Deep.open_slice ht h with ⟨hcs, _⟩ | ⟨ad, l, c, m, n, D, Pl, hcs, _, hlc, hcm, hmm, _, hel⟩
  · simp at hcs
    obtain ⟨rfl, rfl, rfl⟩ := hcs
    exact ⟨fun _ => ⟨rfl, rfl⟩, [], rfl, ⟨by simp, Nat.zero_le _, fun h => absurd h (Nat.lt_irrefl _)⟩⟩
  · simp at hcs
    obtain ⟨rfl, rfl, rfl⟩ := hcs
    have hlm : len ≤ m := by rw [hmm]; split <;> omega
    rw [hc] at hel
    have : Inhabited α := ⟨d⟩
    obtain ⟨f, hf⟩ := Deep.choose_lt (α := α) (n := len) (p := fun i s => ∀ r, r < sz → W.cell? ((ad.add (i * sz)).add r) = (cells s)[r]?) (fun i hi => by
      obtain ⟨cs', h1, h2⟩ := hel i (by omega)
      obtain ⟨s, rfl⟩ := one h2
      exact ⟨s, (World.cells?_some h1).2.2⟩)
    refine ⟨(fun e => by cases e), (List.range len).map f, by simp, ⟨by rw [row_length cells sz hcl]; simp, by omega, fun hp => ?_⟩⟩
    have cell : ∀ j v, (((List.range len).map f).flatMap cells)[j]? = some v → W.cell? (ad.add j) = some v := fun j v hv => by
      have hj : j < len * sz := by
        have := (List.getElem?_eq_some_iff.1 hv).1
        rw [row_length cells sz hcl] at this
        simpa using this
      have hi : j / sz < len := Nat.div_lt_of_lt_mul (by rw [Nat.mul_comm]; exact hj)
      have hm := Nat.mod_lt j hsz
      have e1 : j / sz * sz + j % sz = j := by rw [Nat.mul_comm]; exact Nat.div_add_mod j sz
      have hr := row_get cells sz hcl ((List.range len).map f) (j / sz) (j % sz) (f (j / sz)) (by simp [hi]) hm
      rw [e1, hv] at hr
      have h1 := hf (j / sz) hi (j % sz) hm
      rw [Deep.add_add, e1] at h1
      rw [h1, ← hr]
    obtain ⟨b, off, spot⟩ := ad
    have hl0 : 0 < (((List.range len).map f).flatMap cells).length := by rw [row_length cells sz hcl]; simp; exact Nat.mul_pos hp hsz
    have h0 := cell 0 _ (List.getElem?_eq_getElem hl0)
    have hspot : spot = none := by simpa [Addr.add] using World.cell?_spot h0
    subst hspot
    refine ⟨b, off, rfl, fun j v hv => ?_⟩
    have := cell j v hv
    rwa [show (⟨b, off, none⟩ : Addr).add j = ⟨b, off + j, none⟩ by unfold Addr.add; split <;> simp_all] at this
end
end Go.Proofs.Qxb6604664a
