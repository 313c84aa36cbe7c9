import Derived.Test.Qxb6604592aHeld
namespace Go.Proofs.Qxb6604592a
open Go.RowKit Go.Maps

/-- No two of the first paths are one. -/
def Distinct (ss : List St) : Prop := ∀ (i j : Nat) (s t : St), i < j → ss[i]? = some s → ss[j]? = some t → s.path ≠ t.path

theorem Distinct.reverse {ss : List St} (h : Distinct ss) : Distinct ss.reverse := by
  intro i j s t hij hs ht
  have hi := (List.getElem?_eq_some_iff.1 hs).1
  have hj := (List.getElem?_eq_some_iff.1 ht).1
  simp at hi hj
  rw [List.getElem?_reverse hi] at hs
  rw [List.getElem?_reverse hj] at ht
  exact fun e => h _ _ t s (by omega) ht hs e.symm

theorem Distinct.at {ss : List St} (h : Distinct ss) {s : St} (hs : s ∈ ss) (z : DataW Unit) : (filled ss).atKey s.key z = s.datum ∧ has (filled ss) s.key = true := by
  obtain ⟨i, hi⟩ := List.mem_iff_getElem?.1 hs
  have hl := (List.getElem?_eq_some_iff.1 hi).1
  have := at_filled ss i s hi z ss.length hl (Nat.le_refl _) (fun l u a _ c e => h i l s u a hi c e.symm)
  rw [List.take_of_length_le (Nat.le_refl _)] at this
  exact ⟨this, (has_filled ss s).2 ⟨i, s, hi, rfl⟩⟩

theorem Distinct.size {ss : List St} (h : Distinct ss) : size (filled ss) = ss.length := by
  suffices g : ∀ k, k ≤ ss.length → Maps.size (filled (ss.take k)) = k by
    have := g ss.length (Nat.le_refl _)
    rwa [List.take_of_length_le (Nat.le_refl _)] at this
  intro k
  induction k with
  | zero => intro _; rfl
  | succ k ih =>
    intro hk
    rw [size_filled ss k (by omega), ih (by omega)]
    have : firstTo (pathAt ss) k ss.length = true := (firstTo_spec _ _ _).2 fun l _ hl => by
      obtain ⟨s, hs⟩ : ∃ s, ss[l]? = some s := ⟨_, List.getElem?_eq_getElem (by omega)⟩
      obtain ⟨t, ht⟩ : ∃ t, ss[k]? = some t := ⟨_, List.getElem?_eq_getElem (by omega)⟩
      rw [pathAt_some hs, pathAt_some ht]
      exact h l k s t hl hs ht
    simp [this]

theorem filled_rev (ss : List St) (k : Nat) (s : St) (h : ss[k]? = some s) : filled ((ss.drop k).reverse) = (filled ((ss.drop (k + 1)).reverse)).put s.key s.datum := by
  have hk := (List.getElem?_eq_some_iff.1 h).1
  have e : ss.drop k = s :: ss.drop (k + 1) := by
    rw [List.drop_eq_getElem_cons hk]
    congr 1
    rw [List.getElem?_eq_getElem hk] at h
    exact Option.some.inj h
  rw [e, List.reverse_cons]
  exact filled_snoc _ _

theorem distinct_of {ss : List St} {len : Nat} (hl : ss.length = len) (h : ∀ i j, i < j → j < len → pathAt ss i ≠ pathAt ss j) : Distinct ss := by
  intro i j s t hij hs ht
  have hj := (List.getElem?_eq_some_iff.1 ht).1
  have := h i j hij (by omega)
  rwa [pathAt_some hs, pathAt_some ht] at this

theorem IsTs.touched {w w' : World} {tb bm n tb' bm' : Nat} {D : DataW Unit} (h : IsTs w tb bm n D) (ht : Touched w w' tb' bm') (h1 : tb ≠ tb') (h2 : tb ≠ bm') (h3 : bm ≠ tb') (h4 : bm ≠ bm') : IsTs w' tb bm n D := by
  obtain ⟨ltb, lbm⟩ := h.lt
  have e1 : w'.heap[tb]? = w.heap[tb]? := ht.block tb ltb h1 h2
  have e2 : w'.heap[bm]? = w.heap[bm]? := ht.block bm lbm h3 h4
  obtain ⟨es, clock, hb, F, hs, hD⟩ := h.own
  exact ⟨(World.cell?_of_block (w := w) (a := ⟨tb, 0, none⟩) e1).trans h.c0, (World.cell?_of_block (w := w) (a := ⟨tb, 2, none⟩) e1).trans h.c2, (World.frozen?_of_block (w := w) (a := ⟨tb, 0, none⟩) e1).trans h.f0, h.ne,
    ⟨es, clock, e2.trans hb, F, hs, hD⟩⟩

theorem copy_empty (a : Option Addr) (cap : Nat) (hc : a = none → cap = 0) (w : World) : ∃ a' : Option Addr, Calls Try.prog 7 #[.slice a 0 cap] w fun e w' => e = .returned (.slice a' 0 0) ∧ Below w.heap.size w w' := by
  cases a with
  | none => rw [hc rfl]; exact ⟨none, (copy_nil w).mono fun e w' ⟨h1, h2⟩ => ⟨h1, by rw [h2]; exact Below.refl _ _⟩⟩
  | some ad => exact ⟨_, (copy_some ad 0 cap [] w rfl (fun j v h => by simp [rowOf] at h) (by omega)).mono fun e w' ⟨h1, h2, _⟩ => ⟨h1, h2⟩⟩
end Go.Proofs.Qxb6604592a
