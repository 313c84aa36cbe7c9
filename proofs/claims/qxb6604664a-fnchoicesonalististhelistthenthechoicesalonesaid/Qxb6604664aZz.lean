import Derived.Test.Qxb6604664aChoices
import Derived.Test.Qxb6604664aOpts
namespace Go.Proofs.Qxb6604664a
open Go.RowKit Go.Maps

def Vof (own : Bool) (v1 v2 : List Pr) (k : Nat) : List Pr := if own then (if k = 1 then v1 else v2) else []
def ChoPost (w : World) (out : List Sl) (e : Ending) (w' : World) : Prop := ∃ a', e = .returned (.slice a' out.length out.length) ∧ SliceOf w' a' out.length 6 (rowS out) ∧ Below w.heap.size w w'

theorem SliceOf.none_len {w : World} {len sz : Nat} {xs : List Value} (h : SliceOf w none len sz xs) : len = 0 := by
  rcases Nat.eq_zero_or_pos len with e | e
  · exact e
  · obtain ⟨b, off, e, _⟩ := h.cells e
    cases e
theorem SliceOf.turned {w w' : World} {a : Option Addr} {len sz : Nat} {xs : List Value} (h : SliceOf w a len sz xs) {bm nn : Nat} {D : DataW Value} (hown : w.ownsMap Try.prog 39 heldElem bm nn D) (hg : w.grownBy w' (some bm)) : SliceOf w' a len sz xs :=
  ⟨h.len_eq, h.most, fun hp => by
    obtain ⟨b, off, rfl, hc⟩ := h.cells hp
    refine ⟨b, off, rfl, fun j v hv => ?_⟩
    have hj := hc j v hv
    obtain ⟨es, clock, hb, _⟩ := hown
    have hne : b ≠ bm := fun e => by subst e; simp [World.cell?, hb] at hj
    exact hg.cell hj (fun e => hne (Option.some.inj e))⟩
theorem empty_slice (w : World) (sz : Nat) : SliceOf w none 0 sz [] := ⟨by simp, Nat.zero_le _, fun h => absurd h (Nat.lt_irrefl _)⟩

/-- The map that the call fills, as its callee is told of it. -/
theorem given_of {w : World} {bm : Nat} {gs st : ByteArray} (hst : st.size ≤ maxLen) {k1 k2 : Lit} (hk1 : keyOf Try.prog 39 (.agg #[.string gs, .int .i64 1]) = some k1) (hk2 : keyOf Try.prog 39 (.agg #[.string gs, .int .i64 2]) = some k2)
    {v1 v2 : List Pr} {A1 A2 : Option Addr} (hown : w.ownsMap Try.prog 39 heldElem bm 2 (((DataW.map []).put k1 (.held (.slice A1 v1.length v1.length))).put k2 (.held (.slice A2 v2.length v2.length)))) (h1 : SliceOf w A1 v1.length 2 (rowP v1)) (h2 : SliceOf w A2 v2.length 2 (rowP v2)) :
    Given w bm st (Vof (gs.toList == st.toList) v1 v2) (fun k => if (gs.toList == st.toList) = true then (if k = 1 then A1 else A2) else none) (fun k => if (gs.toList == st.toList) = true then (if k = 1 then v1.length else v2.length) else 0) := by
  have hne : k1 ≠ k2 := key39_ne hk1 hk2 (fun h => by simp at h)
  have i1 : WideAt.IsKeyLit k1 := law39.key hk1
  have i2 : WideAt.IsKeyLit k2 := law39.key hk2
  have hput : IsMap (DataW.put (DataW.map []) k1 (.held (.slice A1 v1.length v1.length)) : DataW Value) := IsMap.put isMap_empty _ _
  by_cases ho : (gs.toList == st.toList) = true
  · have e : gs = st := by
      have := eq_of_beq ho
      rw [ByteArray.toList_eq, ByteArray.toList_eq] at this
      cases gs; cases st
      simp at this
      rw [this]
    subst e
    refine ⟨⟨2, _, hown, fun k hk => ?_⟩, fun k hk => ?_⟩
    · rcases hk with rfl | rfl
      · refine ⟨k1, hk1, ?_⟩
        rw [atKey_put_other hne, atKey_put_same isMap_empty i1]
        simp [Vof]
      · refine ⟨k2, hk2, ?_⟩
        rw [atKey_put_same hput i2]
        simp [Vof]
    · rcases hk with rfl | rfl
      · simpa [Vof] using h1
      · simpa [Vof] using h2
  · have hs : gs ≠ st := fun e => by subst e; simp at ho
    refine ⟨⟨2, _, hown, fun k hk => ?_⟩, fun k hk => ?_⟩
    · obtain ⟨kl, hkl⟩ := key39 st (k : Int) hst (by rcases hk with rfl | rfl <;> decide)
      refine ⟨kl, hkl, ?_⟩
      rw [atKey_put_other (key39_ne hkl hk2 (fun h => hs h.1.symm)), atKey_put_other (key39_ne hkl hk1 (fun h => hs h.1.symm))]
      simp [Vof, ho, DataW.atKey]
    · simp only [Vof, ho]
      exact empty_slice w 2
end Go.Proofs.Qxb6604664a
