import Derived.Test.Qxb6604664aCloneB
import Derived.DeepKeys4
namespace Go.Proofs.Qxb6604664a
open Go.RowKit Go.Maps
open Go.WideMaps (KeyLaw)

/-! ### The map of fields: its elements are told by themselves -/
theorem laidOut : laidOutB Try.prog = true := by kernel_rfl
theorem row39 : 39 < Try.prog.types.size := of_decide_eq_true (by kernel_rfl)
theorem wide39 : (match Try.prog.underlying 39 with | some (.array _ _) | some (.struct _) => true | _ => false) = true := by kernel_rfl
theorem law39 : Keyed Try.prog 39 := Keyed.of_law (deep_law_laid laidOut (m := 3) (by omega) row39 (by kernel_rfl) wide39)
def heldElem (v : Value) : Option (DataW Value × List MemPlace) := some (.held v, [])
theorem zero36 (w : World) : (zeroValue 36).run Try.prog w = .ok (.slice none 0 0) w := by kernel_rfl
theorem keyType39 : Try.prog.keyType 39 = true := by kernel_rfl
theorem size65 : Try.prog.types.size = 65 := by kernel_rfl
theorem cells39 : Try.prog.cellsOf 39 = 2 := by kernel_rfl
theorem cells9 : Try.prog.cellsOf 9 = 1 := by kernel_rfl
theorem cells3 : Try.prog.cellsOf 3 = 1 := by kernel_rfl

theorem lits39 (d : Nat) (s : ByteArray) (n : Int) (hs : s.size ≤ maxLen) (hn : (Lit.int .i64 n).wf = true) : Try.prog.keyLits (d + 2) 39 [.string s, .int .i64 n] = some [.string s.data.toList, .int .i64 n] := by
  unfold Program.keyLits
  rw [Try.underlying39]
  simp [cells39, cells9, cells3, Program.keyLits, Try.underlying9, Try.underlying3, hs, hn]

theorem key39 (s : ByteArray) (n : Int) (hs : s.size ≤ maxLen) (hn : (Lit.int .i64 n).wf = true) : ∃ kl, keyOf Try.prog 39 (.agg #[.string s, .int .i64 n]) = some kl := by
  unfold keyOf
  rw [Try.underlying39]
  simp only []
  have hf : (Value.agg #[.string s, .int .i64 n]).formed Try.prog 39 = true := by
    simp [Value.formed, Try.underlying39, cells39]
  rw [keyType39, hf, size65]
  have := lits39 64 s n hs hn
  exact ⟨_, by simp only [Bool.and_self, if_true, Value.cells]; rw [show (65 + 1 : Nat) = 64 + 2 from rfl, this]; rfl⟩

/-- The keys of two selectors of states are one just if they are. -/
theorem key39_ne {s t : ByteArray} {m n : Int} {k l : Lit} (hk : keyOf Try.prog 39 (.agg #[.string s, .int .i64 m]) = some k) (hl : keyOf Try.prog 39 (.agg #[.string t, .int .i64 n]) = some l) (h : ¬ (s = t ∧ m = n)) : k ≠ l := by
  intro e
  subst e
  have := law39.inj hk hl
  simp at this
  exact h this

/-- 'm[k]' in the map of fields: the element itself. -/
theorem wpList_lookup_held (w : World) {ops : Array Oper} {rest : List Oper} {o : Oper} {a : Act} {Q : Exit → Act → World → Prop} (hg : o.guard = none) (m x : Operand) (hop : o.op = Op.lookup 35 m x false)
    (b n : Nat) (D : DataW Value) (hm : a.eval m = .map (some b)) (hown : w.ownsMap Try.prog 39 heldElem b n D) (key : Value) (kl : Lit) (hx : a.eval x = key) (hkey : keyOf Try.prog 39 key = some kl)
    (v : Value) (hat : D.atKey kl (.held (.slice none 0 0)) = .held v)
    (hK : wpList Try.prog ops Q rest (a.put o.dst v) w) :
    wpList Try.prog ops Q (o :: rest) a w := by
  refine wpList_plain hg fun K' hK' => ?_
  obtain ⟨u, ps, hrun, hu⟩ := hown.lookup law39 Try.underlying35 (zero36 w) (show heldElem (.slice none 0 0) = some (.held (.slice none 0 0), []) from rfl) hkey
  rw [hat] at hu
  simp only [heldElem, Option.some.injEq, Prod.mk.injEq, DataW.held.injEq] at hu
  obtain ⟨rfl, _⟩ := hu
  unfold Oper.wp
  simp [execOp, hop, hm, hx, hrun, Result.andThen]
  exact hK' _ _ hK

/-! ### append -/
/-- Where one element is appended to an owned row: in place, or in a new block; whatever else was there is there. -/
structure Grew (B : Nat) (w : World) (g n : Nat) (w' : World) (g' : Nat) : Prop where
  below : Below B w w'
  where_ : g' = g ∨ g' = w.heap.size
  keep : ∀ b o v, w.cell? ⟨b, o, none⟩ = some v → (b = g → o < n * 6) → w'.cell? ⟨b, o, none⟩ = some v
  lt : g' < w'.heap.size

theorem append_own (w : World) (B g n cap : Nat) (xs : List Value) (ty : TypeId) (hown : w.ownsRow B 44 6 (.slice (some ⟨g, 0, none⟩) n cap) n xs) (ad : Addr) (c : Nat) (news : List Value) (hl : news.length = 6) (hnews : ∀ j u, news[j]? = some u → w.cell? (ad.add j) = some u) (h1 : Strs news) (hn : n ≤ 1000000000) (hB : B ≤ w.heap.size) :
    ∃ g' cap' w', (Builtin.append_ #[40, 40] ty #[.slice (some ⟨g, 0, none⟩) n cap, .slice (some ad) 1 c]).run Try.prog w = .ok (.slice (some ⟨g', 0, none⟩) (n + 1) cap') w' ∧
      w'.ownsRow B 44 6 (.slice (some ⟨g', 0, none⟩) (n + 1) cap') (n + 1) (xs ++ news) ∧ Grew B w g n w' g' := by
  obtain ⟨i, hi, hz0, hz1, hz2⟩ := info_parts Try.info44
  rcases hown.2 with ⟨e, _⟩ | ⟨g1, cap1, cur, e, hbg, hg, hnc, hcm, hcs, htake⟩
  · cases e
  cases e
  have hlen : (xs ++ news).length = (n + 1) * 6 := by rw [List.length_append, hown.1, hl]; omega
  have hglt : g < w.heap.size := (Array.getElem?_eq_some_iff.1 hg).1
  by_cases hroom : n + 1 ≤ cap
  · have hr := run_append_room (P := Try.prog) w 40 ty 44 i Try.underlying40 hi g n cap cur hg ad 1 c news (by rw [hl, hz1]) hnews h1.one hroom (by rw [hz1, hl, hcs]; omega)
    rw [hz1] at hr
    have hrow := setRow_heap w g cur (cur.toList.take (n * 6) ++ news ++ cur.toList.drop (n * 6 + news.length)).toArray 44 _ hg
    refine ⟨g, cap, _, hr, ⟨hlen, .inr ⟨g, cap, _, rfl, hbg, hrow, hroom, hcm, ?_, ?_⟩⟩, ⟨⟨rfl, rfl, rfl, by simp, fun k hk => setRow_other w g k _ (by omega)⟩, .inl rfl, ?_, by simpa using hglt⟩⟩
    · simp only [List.size_toArray, List.length_append, List.length_take, List.length_drop, Array.length_toList]
      omega
    · rw [htake]
      simp only []
      rw [← hlen]
      exact List.take_left
    · intro b o v hv hbo
      by_cases hb : b = g
      · subst hb
        have ho := hbo rfl
        rw [cell_of_row _ b o _ 44 (0, 0) hrow]
        rw [cell_of_row w b o cur 44 (0, 0) hg] at hv
        have hx : xs[o]? = some v := by rw [← htake, List.getElem?_take, if_pos ho]; simpa using hv
        rw [htake]
        simp only [List.getElem?_toArray]
        rw [List.append_assoc, List.getElem?_append_left (by rw [hown.1]; exact ho)]
        exact hx
      · rw [World.cell?_of_block (w := w) (a := ⟨b, o, none⟩) (setRow_other w g b _ hb)]
        exact hv
  · have holds : ∀ j u, xs[j]? = some u → w.cell? ((⟨g, 0, none⟩ : Addr).add j) = some u := hown.cells (g := g) rfl
    have hr := run_append_grow (P := Try.prog) w 40 ty 44 i _ Try.underlying40 hi hz0 ⟨g, 0, none⟩ n cap xs (by rw [hz1]; exact hown.1) holds ad 1 c news (by rw [hl, hz1]) hnews (by omega) (by omega) (growslice_fits (by omega) (by rw [hz2]; omega))
    have hge := grownCap_ge w (n + 1) cap 44
    have hcm' : grownCap w (n + 1) cap 44 ≤ maxLen := grownCap_le_maxLen w (n + 1) cap 44 (by unfold maxLen; omega)
    refine ⟨w.heap.size, _, _, hr, ⟨hlen, .inr ⟨w.heap.size, _, _, rfl, hB, heap_alloc_new w.drew _, hge, hcm', ?_, ?_⟩⟩, ⟨((Below.refl B w).drew).alloc hB _, .inr rfl, ?_, by simp⟩⟩
    · simp only [Array.size_append, List.size_toArray, size_zeroCells, hown.1, hl]
      have : (Value.agg #[.string ByteArray.empty, .string ByteArray.empty, .string ByteArray.empty, .string ByteArray.empty, .string ByteArray.empty, .string ByteArray.empty]).cells.size = 6 := rfl
      rw [this]
      omega
    · simp only [Array.toList_append, List.append_assoc]
      rw [← List.append_assoc, ← hlen]
      exact List.take_left
    · intro b o v hv _
      have hlt : b < w.heap.size := World.block_lt_of_cell? _ _ hv
      rw [((Below.refl w.heap.size w).drew.alloc (Nat.le_refl _) _).cell (p := ⟨b, o, none⟩) hlt]
      exact hv
end Go.Proofs.Qxb6604664a
