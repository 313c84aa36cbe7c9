import Derived.Test.Qxb6604592aCopy
namespace Go.Proofs.Qxb6604592a
open Go.RowKit Go.Maps

/-! ### The plain law: a map filled step by step -/
def St.key (s : St) : Lit := .string s.path.data.toList
def St.datum (s : St) : DataW Unit := .agg [.lit (.string s.name.data.toList), .lit (.int .i64 s.size), .lit (.int .i64 s.pl), .lit (.int .i64 s.files)]
def St.content (s : St) : Value := .agg #[.string s.name, .int .i64 s.size, .int .i64 s.pl, .int .i64 s.files]
def filled (ss : List St) : DataW Unit := ss.foldl (fun D s => D.put s.key s.datum) (.map [])

theorem key_eq {s t : St} : s.key = t.key ↔ s.path = t.path := by
  constructor
  · intro h
    simp only [St.key, Lit.string.injEq] at h
    cases hs : s.path with | mk a => cases ht : t.path with | mk b =>
      rw [hs, ht] at h
      simp at h
      rw [h]
  · intro h
    simp [St.key, h]

theorem filled_snoc (ss : List St) (s : St) : filled (ss ++ [s]) = (filled ss).put s.key s.datum := by simp [filled, List.foldl_append]
theorem filled_take (ss : List St) (k : Nat) (s : St) (h : ss[k]? = some s) : filled (ss.take (k + 1)) = (filled (ss.take k)).put s.key s.datum := by
  rw [List.take_add_one, h]
  exact filled_snoc _ _

theorem tidy_filled (ss : List St) : Tidy (filled ss) := by
  suffices h : ∀ (ss : List St) (D : DataW Unit), Tidy D → Tidy (ss.foldl (fun D s => D.put s.key s.datum) D) from h ss _ tidy_empty
  intro ss
  induction ss with
  | nil => intro D h; exact h
  | cons s r ih => intro D h; exact ih _ (h.put (by simp [St.key, WideAt.IsKeyLit]) _)

/-- The key is there just if a step has that path. -/
theorem has_filled (ss : List St) (s : St) : has (filled ss) s.key = true ↔ ∃ (l : Nat) (t : St), ss[l]? = some t ∧ t.path = s.path := by
  suffices h : ∀ n, n ≤ ss.length → (has (filled (ss.take n)) s.key = true ↔ ∃ (l : Nat) (t : St), l < n ∧ ss[l]? = some t ∧ t.path = s.path) by
    have := h ss.length (Nat.le_refl _)
    rw [List.take_of_length_le (Nat.le_refl _)] at this
    rw [this]
    constructor
    · rintro ⟨l, t, _, h1, h2⟩; exact ⟨l, t, h1, h2⟩
    · rintro ⟨l, t, h1, h2⟩; exact ⟨l, t, (List.getElem?_eq_some_iff.1 h1).1, h1, h2⟩
  intro n
  induction n with
  | zero => intro _; simp [filled, has]
  | succ n ih =>
    intro hn
    obtain ⟨u, hu⟩ : ∃ u, ss[n]? = some u := ⟨_, List.getElem?_eq_getElem (by omega)⟩
    rw [filled_take ss n u hu]
    by_cases e : s.key = u.key
    · rw [e, has_put_same (tidy_filled _).isMap (by simp [St.key, WideAt.IsKeyLit])]
      simp only [true_iff]
      exact ⟨n, u, by omega, hu, (key_eq.1 e).symm⟩
    · rw [has_put_other e, ih (by omega)]
      constructor
      · rintro ⟨l, t, h0, h1, h2⟩; exact ⟨l, t, by omega, h1, h2⟩
      · rintro ⟨l, t, h0, h1, h2⟩
        refine ⟨l, t, ?_, h1, h2⟩
        rcases Nat.lt_succ_iff_lt_or_eq.1 h0 with h | rfl
        · exact h
        · rw [hu] at h1
          cases h1
          exact absurd (key_eq.2 h2.symm) e

/-- The element at a path is the last step's there. -/
theorem at_filled (ss : List St) (L : Nat) (t : St) (hL : ss[L]? = some t) (z : DataW Unit) : ∀ n, L < n → n ≤ ss.length → (∀ l u, L < l → l < n → ss[l]? = some u → u.path ≠ t.path) → (filled (ss.take n)).atKey t.key z = t.datum := by
  intro n
  induction n with
  | zero => intro h; omega
  | succ n ih =>
    intro h1 h2 h3
    obtain ⟨u, hu⟩ : ∃ u, ss[n]? = some u := ⟨_, List.getElem?_eq_getElem (by omega)⟩
    rw [filled_take ss n u hu]
    rcases Nat.lt_succ_iff_lt_or_eq.1 h1 with h | rfl
    · have hne : t.key ≠ u.key := fun e => h3 n u h (by omega) hu (key_eq.1 e).symm
      rw [atKey_put_other hne]
      exact ih h (by omega) (fun l v a b c => h3 l v a (by omega) c)
    · rw [hL] at hu
      cases hu
      exact atKey_put_same (tidy_filled _).isMap (by simp [St.key, WideAt.IsKeyLit]) _ _

/-! ### What the law's inner loop reckons -/
def lastTo (p : Nat → ByteArray) (k : Nat) : Nat → Nat
  | 0 => k
  | m + 1 => if p m = p k ∧ lastTo p k m < m then m else lastTo p k m
def firstTo (p : Nat → ByteArray) (k : Nat) : Nat → Bool
  | 0 => true
  | m + 1 => if p m = p k ∧ m < k then false else firstTo p k m

theorem lastTo_spec (p : Nat → ByteArray) (k : Nat) : ∀ m, k ≤ lastTo p k m ∧ p (lastTo p k m) = p k ∧ (lastTo p k m = k ∨ lastTo p k m < m) ∧ ∀ l, lastTo p k m < l → l < m → p l ≠ p k
  | 0 => ⟨Nat.le_refl _, rfl, .inl rfl, fun l _ h => by omega⟩
  | m + 1 => by
    obtain ⟨h1, h2, h3, h4⟩ := lastTo_spec p k m
    simp only [lastTo]
    split
    · rename_i h
      exact ⟨by omega, h.1, .inr (by omega), fun l a b => by omega⟩
    · rename_i h
      refine ⟨h1, h2, by omega, fun l a b e => ?_⟩
      rcases Nat.lt_succ_iff_lt_or_eq.1 b with hb | rfl
      · exact h4 l a hb e
      · exact h ⟨e, a⟩
theorem firstTo_spec (p : Nat → ByteArray) (k : Nat) : ∀ m, firstTo p k m = true ↔ ∀ l, l < m → l < k → p l ≠ p k
  | 0 => by simp [firstTo]
  | m + 1 => by
    simp only [firstTo]
    split
    · rename_i h
      simp only [Bool.false_eq_true, false_iff]
      intro hh
      exact hh m (by omega) h.2 h.1
    · rename_i h
      rw [firstTo_spec p k m]
      constructor
      · intro hh l a b e
        rcases Nat.lt_succ_iff_lt_or_eq.1 a with ha | rfl
        · exact hh l ha b e
        · exact h ⟨e, b⟩
      · intro hh l a b
        exact hh l (by omega) b

/-- The paths by index. -/
def pathAt (ss : List St) (i : Nat) : ByteArray := (ss[i]?.map St.path).getD ByteArray.empty
theorem pathAt_some {ss : List St} {i : Nat} {s : St} (h : ss[i]? = some s) : pathAt ss i = s.path := by simp [pathAt, h]

/-- How many are there: one more where the path is new. -/
theorem size_filled (ss : List St) (k : Nat) (hk : k < ss.length) : size (filled (ss.take (k + 1))) = size (filled (ss.take k)) + if firstTo (pathAt ss) k ss.length then 1 else 0 := by
  obtain ⟨s, hs⟩ : ∃ s, ss[k]? = some s := ⟨_, List.getElem?_eq_getElem hk⟩
  rw [filled_take ss k s hs, size_put (tidy_filled _)]
  have hh := has_filled (ss.take k) s
  have hf := firstTo_spec (pathAt ss) k ss.length
  by_cases h : has (filled (ss.take k)) s.key = true
  · obtain ⟨l, t, h1, h2⟩ := hh.1 h
    have hl : l < k := by have := (List.getElem?_eq_some_iff.1 h1).1; simp at this; omega
    have h1' : ss[l]? = some t := by rwa [List.getElem?_take_of_lt hl] at h1
    have hn : ¬ firstTo (pathAt ss) k ss.length = true := fun e => hf.1 e l (by omega) hl (by rw [pathAt_some h1', pathAt_some hs, h2])
    simp [h, hn]
  · have hy : firstTo (pathAt ss) k ss.length = true := hf.2 fun l _ hl e => h (hh.2 (by
      obtain ⟨t, ht⟩ : ∃ t, ss[l]? = some t := ⟨_, List.getElem?_eq_getElem (by omega)⟩
      refine ⟨l, t, by rw [List.getElem?_take_of_lt hl]; exact ht, ?_⟩
      rw [pathAt_some ht, pathAt_some hs] at e
      exact e))
    simp [h, hy]

theorem size_filled_le (ss : List St) : ∀ k, k ≤ ss.length → size (filled (ss.take k)) ≤ k
  | 0, _ => by simp [filled, size]
  | k + 1, h => by
    rw [size_filled ss k (by omega)]
    have := size_filled_le ss k (by omega)
    split <;> omega

/-- What the second loop finds at place k. -/
theorem found (ss : List St) (k : Nat) (s : St) (hs : ss[k]? = some s) (z : DataW Unit) : ∃ t, ss[lastTo (pathAt ss) k ss.length]? = some t ∧ t.path = s.path ∧ (filled ss).atKey s.key z = t.datum ∧ has (filled ss) s.key = true := by
  have hk : k < ss.length := (List.getElem?_eq_some_iff.1 hs).1
  obtain ⟨h1, h2, h3, h4⟩ := lastTo_spec (pathAt ss) k ss.length
  have hL : lastTo (pathAt ss) k ss.length < ss.length := by omega
  obtain ⟨t, ht⟩ : ∃ t, ss[lastTo (pathAt ss) k ss.length]? = some t := ⟨_, List.getElem?_eq_getElem hL⟩
  rw [pathAt_some ht, pathAt_some hs] at h2
  refine ⟨t, ht, h2, ?_, (has_filled ss s).2 ⟨k, s, hs, rfl⟩⟩
  have := at_filled ss _ t ht z ss.length hL (Nat.le_refl _) (fun l u a b c e => h4 l a b (by rw [pathAt_some c, pathAt_some hs, e, h2]))
  rw [List.take_of_length_le (Nat.le_refl _), key_eq.2 h2] at this
  exact this

theorem content_inv {v : Value} {s : St} {ps : List MemPlace} (h : contentElem v = some (s.datum, ps)) : v = s.content := by
  unfold contentElem at h
  split at h
  · rename_i xs
    unfold contentList at h
    split at h
    · rename_i n a b c hx
      simp only [St.datum, Option.some.injEq, Prod.mk.injEq, DataW.agg.injEq, List.cons.injEq, DataW.lit.injEq, Lit.string.injEq, Lit.int.injEq, true_and, and_true] at h
      obtain ⟨⟨h1, rfl, rfl, rfl⟩, _⟩ := h
      have hn : n = s.name := by
        cases hs : s.name with | mk a => cases n with | mk b =>
          rw [hs] at h1
          simp at h1
          rw [h1]
      have hxs : xs = #[.string n, .int .i64 s.size, .int .i64 s.pl, .int .i64 s.files] := by
        cases xs
        simpa using hx
      rw [hxs, hn]
      rfl
    · cases h
  · cases h

theorem str_eq {a b : ByteArray} (h : (a.toList == b.toList) = true) : a = b := by
  have h' := eq_of_beq h
  rw [ByteArray.toList_eq, ByteArray.toList_eq] at h'
  cases a with | mk a => cases b with | mk b =>
    simp at h'
    rw [h']
theorem str_ne {a b : ByteArray} (h : (a.toList == b.toList) = false) : a ≠ b := fun e => by subst e; simp at h

theorem last_up {p : Nat → ByteArray} {k m L : Nat} {a b : ByteArray} (hL : L = lastTo p k m) (pm : p m = a) (pk : p k = b) (h : (a.toList == b.toList) = true) (hlt : L < m) : m = lastTo p k (m + 1) := by
  simp only [lastTo]
  rw [if_pos ⟨by rw [pm, pk, str_eq h], by omega⟩]
theorem last_stay {p : Nat → ByteArray} {k m L : Nat} (hL : L = lastTo p k m) (hlt : ¬ L < m) : L = lastTo p k (m + 1) := by
  simp only [lastTo]
  rw [if_neg (fun h => by omega)]
  exact hL
theorem last_ne {p : Nat → ByteArray} {k m L : Nat} {a b : ByteArray} (hL : L = lastTo p k m) (pm : p m = a) (pk : p k = b) (h : (a.toList == b.toList) = false) : L = lastTo p k (m + 1) := by
  simp only [lastTo]
  rw [if_neg (fun e => str_ne h (by rw [← pm, ← pk]; exact e.1))]
  exact hL
theorem first_no {p : Nat → ByteArray} {k m : Nat} {a b : ByteArray} (pm : p m = a) (pk : p k = b) (h : (a.toList == b.toList) = true) (hlt : m < k) : false = firstTo p k (m + 1) := by
  simp only [firstTo]
  rw [if_pos ⟨by rw [pm, pk, str_eq h], hlt⟩]
theorem first_stay {p : Nat → ByteArray} {k m : Nat} {F : Bool} (hF : F = firstTo p k m) (hlt : ¬ m < k) : F = firstTo p k (m + 1) := by
  simp only [firstTo]
  rw [if_neg (fun h => hlt h.2)]
  exact hF
theorem first_ne {p : Nat → ByteArray} {k m : Nat} {F : Bool} {a b : ByteArray} (hF : F = firstTo p k m) (pm : p m = a) (pk : p k = b) (h : (a.toList == b.toList) = false) : F = firstTo p k (m + 1) := by
  simp only [firstTo]
  rw [if_neg (fun e => str_ne h (by rw [← pm, ← pk]; exact e.1))]
  exact hF
end Go.Proofs.Qxb6604592a
