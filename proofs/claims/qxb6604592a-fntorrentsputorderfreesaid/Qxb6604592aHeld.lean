import Derived.Test.Qxb6604592aPlain
namespace Go.Proofs.Qxb6604592a
open Go.RowKit Go.Maps
open Go.WideMaps (keyOf_string_mk)

/-- What the walks are told of a slice of steps that is not nil: it leads to the row of ss. -/
structure IsSteps (w : World) (ad : Addr) (len : Nat) (ss : List St) : Prop where
  len_eq : ss.length = len
  src : ∀ j v, (rowOf ss)[j]? = some v → w.cell? (ad.add j) = some v
  sizes : ∀ s ∈ ss, s.path.size ≤ maxLen ∧ s.name.size ≤ maxLen
  most : len ≤ maxLen

theorem IsSteps.at {w : World} {ad : Addr} {len : Nat} {ss : List St} (h : IsSteps w ad len ss) (hpos : 0 < len) : ∃ b off, ad = ⟨b, off, none⟩ ∧ StepsAt w b off ss := by
  obtain ⟨b, off, spot⟩ := ad
  have hl : 0 < (rowOf ss).length := by rw [rowOf_length, h.len_eq]; omega
  have h0 := h.src 0 _ (List.getElem?_eq_getElem hl)
  have hspot : spot = none := by simpa [Addr.add] using World.cell?_spot h0
  subst hspot
  refine ⟨b, off, rfl, fun i s hs => ?_⟩
  have key : ∀ j v, (rowOf ss)[j]? = some v → w.cell? ⟨b, off + j, none⟩ = some v := fun j v hv => by
    have := h.src j v hv
    rwa [show (⟨b, off, none⟩ : Addr).add j = ⟨b, off + j, none⟩ by unfold Addr.add; split <;> simp_all] at this
  have g : ∀ j, j < 5 → ∀ v, s.cells[j]? = some v → w.cell? ⟨b, off + i * 5 + j, none⟩ = some v := fun j hj v hv => by
    rw [Nat.add_assoc]
    exact key _ _ ((rowOf_get ss i j s hs hj).trans hv)
  exact ⟨⟨g 0 (by omega) _ rfl, g 1 (by omega) _ rfl, g 2 (by omega) _ rfl, g 3 (by omega) _ rfl, g 4 (by omega) _ rfl⟩, h.sizes s (List.mem_of_getElem? hs)⟩

/-- A row that is known whole holds its steps. -/
theorem StepsAt.of_row {w : World} {B : Nat} {ss : List St} (h : w.heap[B]? = some (.cells (rowOf ss).toArray 30)) (hz : ∀ s ∈ ss, s.path.size ≤ maxLen ∧ s.name.size ≤ maxLen) : StepsAt w B 0 ss := by
  intro i s hs
  have g : ∀ j, j < 5 → ∀ v, s.cells[j]? = some v → w.cell? ⟨B, 0 + i * 5 + j, none⟩ = some v := fun j hj v hv => by
    have e := (rowOf_get ss i j s hs hj).trans hv
    simp only [World.cell?, h, Nat.zero_add]
    simpa using e
  exact ⟨⟨g 0 (by omega) _ rfl, g 1 (by omega) _ rfl, g 2 (by omega) _ rfl, g 3 (by omega) _ rfl, g 4 (by omega) _ rfl⟩, hz s (List.mem_of_getElem? hs)⟩

theorem StepsAt.same {w w' : World} {b off : Nat} {ss : List St} (h : StepsAt w b off ss) (hb : w'.heap[b]? = w.heap[b]?) : StepsAt w' b off ss := by
  intro i s hs
  obtain ⟨⟨k0, k1, k2, k3, k4⟩, hz⟩ := h i s hs
  have e : ∀ o, w'.cell? ⟨b, o, none⟩ = w.cell? ⟨b, o, none⟩ := fun o => World.cell?_of_block (w := w) (a := ⟨b, o, none⟩) hb
  exact ⟨⟨(e _).trans k0, (e _).trans k1, (e _).trans k2, (e _).trans k3, (e _).trans k4⟩, hz⟩

theorem bytes5_any {w : World} {ad : Addr} {len : Nat} {ss : List St} (cap : Nat) (h : IsSteps w ad len ss) :
    Calls Try.prog 5 #[.slice (some ad) len cap] w fun e w' => RetBool e ∧ w' = w := by
  rcases Nat.eq_zero_or_pos len with h0 | h0
  · subst h0; exact bytes5_empty _ _ _
  · obtain ⟨b, off, rfl, hS⟩ := h.at h0
    exact bytes5_some b off len cap ss w h.len_eq hS h.most
theorem bytes12_any {w : World} {ad : Addr} {len : Nat} {ss : List St} (cap : Nat) (h : IsSteps w ad len ss) :
    Calls Try.prog 12 #[.slice (some ad) len cap] w fun e w' => RetBool e ∧ w' = w := by
  rcases Nat.eq_zero_or_pos len with h0 | h0
  · subst h0; exact bytes12_empty _ _ _
  · obtain ⟨b, off, rfl, hS⟩ := h.at h0
    exact bytes12_some b off len cap ss w h.len_eq hS h.most
theorem putBytes_any {w : World} {ad : Addr} {len : Nat} {ss : List St} (cap : Nat) (h : IsSteps w ad len ss) :
    Calls Try.prog 6 #[.slice (some ad) len cap] w fun e w' => RetInt e ∧ ∃ n, w' = w.drewN n := by
  rcases Nat.eq_zero_or_pos len with h0 | h0
  · subst h0; exact (putBytes_empty _ _ _).mono fun _ _ ⟨h1, h2⟩ => ⟨h1, 0, h2⟩
  · obtain ⟨b, off, rfl, hS⟩ := h.at h0
    exact putBytes_some b off len cap ss w h.len_eq hS h.most
theorem copy_any {w : World} {ad : Addr} {len : Nat} {ss : List St} (cap : Nat) (h : IsSteps w ad len ss) (hm : len ≤ 1024) :
    Calls Try.prog 7 #[.slice (some ad) len cap] w fun e w' => e = .returned (.slice (some ⟨w.heap.size, 0, none⟩) len len) ∧ Below w.heap.size w w' ∧
      w.heap.size < w'.heap.size ∧ StepsAt w' w.heap.size 0 ss :=
  (copy_some ad len cap ss w h.len_eq h.src hm).mono fun _ _ ⟨h1, h2, h3⟩ => ⟨h1, h2, (Array.getElem?_eq_some_iff.1 h3).1, StepsAt.of_row h3 h.sizes⟩

theorem IsSteps.drewN {w : World} {ad : Addr} {len : Nat} {ss : List St} (h : IsSteps w ad len ss) (q : Nat) : IsSteps (w.drewN q) ad len ss :=
  ⟨h.len_eq, fun j v hv => (by simpa using h.src j v hv), h.sizes, h.most⟩

/-- 'c, ok := m[k]' at a key that is there: the value written out. -/
theorem wpList_lookup_content (w : World) {ops : Array Oper} {rest : List Oper} {o : Oper} {a : Act} {Q : Exit → Act → World → Prop} (hg : o.guard = none) (m x : Operand) (hop : o.op = Op.lookup 34 m x true)
    (b n : Nat) (D : DataW Unit) (hm : a.eval m = .map (some b)) (hown : w.ownsMap Try.prog 9 contentElem b n D) (s t : St) (hx : a.eval x = .string s.path) (hp : s.path.size ≤ maxLen)
    (hat : ∀ z, D.atKey s.key z = t.datum) (hhas : has D s.key = true)
    (hK : wpList Try.prog ops Q rest (a.put o.dst (.tuple #[.agg #[.string t.name, .int .i64 t.size, .int .i64 t.pl, .int .i64 t.files], .bool true])) w) :
    wpList Try.prog ops Q (o :: rest) a w := by
  refine wpList_plain hg fun K' hK' => ?_
  obtain ⟨v, ps, hrun, hv⟩ := hown.look_ok law9 Try.underlying34 (zero32 w) (contentElem_mk ByteArray.empty 0 0 0) (keyOf_string_mk Try.underlying9 hp)
  rw [show (Lit.string s.path.data.toList) = s.key from rfl, hat] at hv
  rw [show (Lit.string s.path.data.toList) = s.key from rfl, hhas, content_inv hv] at hrun
  unfold Oper.wp
  simp [execOp, hop, hm, hx, hrun, Result.andThen]
  exact hK' _ _ hK
end Go.Proofs.Qxb6604592a
