import Derived.Test.Qxb6604664aLaws
namespace Go.Proofs.Qxb6604664a
open Go.RowKit Go.Maps

/-- One element appended to an owned row, at the operation. -/
theorem wpList_append_sel (w : World) {ops : Array Oper} {rest : List Oper} {o : Oper} {a : Act} {Q : Exit → Act → World → Prop} (hgd : o.guard = none) (s x : Operand) (hop : o.op = .call { callee := .builtin .append, args := #[s, x], argTypes := #[40, 40] })
    (B g n cap : Nat) (xs : List Value) (hs : a.eval s = .slice (some ⟨g, 0, none⟩) n cap) (hown : w.ownsRow B 44 6 (.slice (some ⟨g, 0, none⟩) n cap) n xs) (ad : Addr) (c : Nat) (news : List Value) (hx : a.eval x = .slice (some ad) 1 c)
    (hl : news.length = 6) (hnews : ∀ j u, news[j]? = some u → w.cell? (ad.add j) = some u) (h1 : Strs news) (hn : n ≤ 1000000000) (hB : B ≤ w.heap.size)
    (h : ∀ g' cap' w', w'.ownsRow B 44 6 (.slice (some ⟨g', 0, none⟩) (n + 1) cap') (n + 1) (xs ++ news) → Grew B w g n w' g' → wpList Try.prog ops Q rest (a.put o.dst (.slice (some ⟨g', 0, none⟩) (n + 1) cap')) w') :
    wpList Try.prog ops Q (o :: rest) a w := by
  refine wpList_plain hgd fun K hK => ?_
  obtain ⟨g', cap', w', hr, h2, h3⟩ := append_own w B g n cap xs o.type hown ad c news hl hnews h1 hn hB
  unfold Oper.wp execOp
  simp only [hop, resolve, invoke, builtin, Sem.run_bind, Sem.run_pure, Result.andThen_ok, List.map_toArray, List.map_cons, List.map_nil, hs, hx, hr]
  exact hK _ _ (h g' cap' w' h2 h3)

/-- The first append, to a slice that has no room: a new block. -/
theorem append_first (w : World) (B : Nat) (a : Option Addr) (n : Nat) (xs : List Value) (ty : TypeId) (hS : SliceOf w a n 6 xs) (ad : Addr) (c : Nat) (news : List Value) (hl : news.length = 6) (hnews : ∀ j u, news[j]? = some u → w.cell? (ad.add j) = some u) (hn : n ≤ 1000000000) (hB : B ≤ w.heap.size) :
    ∃ cap' w', (Builtin.append_ #[40, 40] ty #[.slice a n n, .slice (some ad) 1 c]).run Try.prog w = .ok (.slice (some ⟨w.heap.size, 0, none⟩) (n + 1) cap') w' ∧
      w'.ownsRow B 44 6 (.slice (some ⟨w.heap.size, 0, none⟩) (n + 1) cap') (n + 1) (xs ++ news) ∧ Below w.heap.size w w' ∧ w'.heap.size = w.heap.size + 1 := by
  obtain ⟨i, hi, hz0, hz1, hz2⟩ := info_parts Try.info44
  have hlen : (xs ++ news).length = (n + 1) * 6 := by rw [List.length_append, hS.len_eq, hl]; omega
  have hz6 : (Value.agg #[.string ByteArray.empty, .string ByteArray.empty, .string ByteArray.empty, .string ByteArray.empty, .string ByteArray.empty, .string ByteArray.empty]).cells.size = 6 := rfl
  have hge := grownCap_ge w (n + 1) n 44
  have hcm' : grownCap w (n + 1) n 44 ≤ maxLen := grownCap_le_maxLen w (n + 1) n 44 (by unfold maxLen; omega)
  have fin : ∀ cells : Array Value, cells = xs.toArray ++ news.toArray ++ Builtin.zeroCells (Value.agg #[.string ByteArray.empty, .string ByteArray.empty, .string ByteArray.empty, .string ByteArray.empty, .string ByteArray.empty, .string ByteArray.empty]).cells (grownCap w (n + 1) n 44 - (n + 1)) →
      (w.drew.alloc (.cells cells 44)).ownsRow B 44 6 (.slice (some ⟨w.heap.size, 0, none⟩) (n + 1) (grownCap w (n + 1) n 44)) (n + 1) (xs ++ news) ∧ Below w.heap.size w (w.drew.alloc (.cells cells 44)) ∧ (w.drew.alloc (.cells cells 44)).heap.size = w.heap.size + 1 := by
    intro cells e
    subst e
    refine ⟨⟨hlen, .inr ⟨w.heap.size, _, _, rfl, hB, heap_alloc_new w.drew _, hge, hcm', ?_, ?_⟩⟩, (Below.refl _ w).drew.alloc (Nat.le_refl _) _, by simp⟩
    · simp only [Array.size_append, List.size_toArray, size_zeroCells, hS.len_eq, hl, hz6]
      omega
    · simp only [Array.toList_append, List.append_assoc]
      rw [← List.append_assoc, ← hlen]
      exact List.take_left
  cases a with
  | none =>
    have hn0 : n = 0 := by
      rcases Nat.eq_zero_or_pos n with h | h
      · exact h
      · obtain ⟨b, off, e, _⟩ := hS.cells h
        cases e
    subst hn0
    have hx : xs = [] := List.eq_nil_of_length_eq_zero (by simpa using hS.len_eq)
    subst hx
    have hr := run_append_nil (P := Try.prog) w 40 ty 44 i _ Try.underlying40 hi hz0 ad 1 c news (by rw [hl, hz1]) hnews (by omega) (by omega) (by rw [hz2]; omega)
    have := fin _ rfl
    simp only [Nat.zero_add, List.nil_append, Array.empty_append] at this ⊢
    exact ⟨_, _, hr, this⟩
  | some ad0 =>
    have holds : ∀ j v, xs[j]? = some v → w.cell? (ad0.add j) = some v := by
      intro j v hv
      have hj : j < n * 6 := by rw [← hS.len_eq]; exact (List.getElem?_eq_some_iff.1 hv).1
      obtain ⟨b, off, e, hc⟩ := hS.cells (by omega)
      cases e
      rw [show (⟨b, off, none⟩ : Addr).add j = ⟨b, off + j, none⟩ by unfold Addr.add; split <;> simp_all]
      exact hc j v hv
    have hr := run_append_grow (P := Try.prog) w 40 ty 44 i _ Try.underlying40 hi hz0 ad0 n n xs (by rw [hz1]; exact hS.len_eq) holds ad 1 c news (by rw [hl, hz1]) hnews (by omega) (by omega) (growslice_fits (by omega) (by rw [hz2]; omega))
    exact ⟨_, _, hr, fin _ rfl⟩

theorem wpList_append_first (w : World) {ops : Array Oper} {rest : List Oper} {o : Oper} {a : Act} {Q : Exit → Act → World → Prop} (hgd : o.guard = none) (s x : Operand) (hop : o.op = .call { callee := .builtin .append, args := #[s, x], argTypes := #[40, 40] })
    (B H : Nat) (ar : Option Addr) (n : Nat) (xs : List Value) (hs : a.eval s = .slice ar n n) (hS : SliceOf w ar n 6 xs) (ad : Addr) (c : Nat) (news : List Value) (hx : a.eval x = .slice (some ad) 1 c)
    (hl : news.length = 6) (hnews : ∀ j u, news[j]? = some u → w.cell? (ad.add j) = some u) (hn : n ≤ 1000000000) (hB : B ≤ w.heap.size) (hH : w.heap.size = H)
    (h : ∀ cap' w', w'.ownsRow B 44 6 (.slice (some ⟨H, 0, none⟩) (n + 1) cap') (n + 1) (xs ++ news) → Below H w w' → w'.heap.size = H + 1 → wpList Try.prog ops Q rest (a.put o.dst (.slice (some ⟨H, 0, none⟩) (n + 1) cap')) w') :
    wpList Try.prog ops Q (o :: rest) a w := by
  subst hH
  refine wpList_plain hgd fun K hK => ?_
  obtain ⟨cap', w', hr, h2, h3, h4⟩ := append_first w B ar n xs o.type hS ad c news hl hnews hn hB
  unfold Oper.wp execOp
  simp only [hop, resolve, invoke, builtin, Sem.run_bind, Sem.run_pure, Result.andThen_ok, List.map_toArray, List.map_cons, List.map_nil, hs, hx, hr]
  exact hK _ _ (h cap' w' h2 h3 h4)

/-- 'append(to[:first], to[made:]...)': the part behind 'made' laid over what stands from 'first' on. -/
theorem append_cut (w : World) (B g n made tot cap c2 : Nat) (xs : List Value) (ty : TypeId) (hown : w.ownsRow B 44 6 (.slice (some ⟨g, 0, none⟩) tot cap) tot xs) (h1 : Strs xs) (hnm : n ≤ made) (hmt : made ≤ tot) :
    ∃ w', (Builtin.append_ #[40, 40] ty #[.slice (some ⟨g, 0, none⟩) n cap, .slice (some ⟨g, made * 6, none⟩) (tot - made) c2]).run Try.prog w = .ok (.slice (some ⟨g, 0, none⟩) (n + (tot - made)) cap) w' ∧
      w'.ownsRow B 44 6 (.slice (some ⟨g, 0, none⟩) (n + (tot - made)) cap) (n + (tot - made)) (xs.take (n * 6) ++ xs.drop (made * 6)) ∧ Below B w w' ∧ w'.heap.size = w.heap.size := by
  obtain ⟨i, hi, hz0, hz1, hz2⟩ := info_parts Try.info44
  rcases hown.2 with ⟨e, _⟩ | ⟨g1, cap1, cur, e, hbg, hg, hnc, hcm, hcs, htake⟩
  · cases e
  cases e
  have hxl := hown.1
  have hdl : (xs.drop (made * 6)).length = (tot - made) * 6 := by rw [List.length_drop, hxl]; omega
  have hr := run_append_room (P := Try.prog) w 40 ty 44 i Try.underlying40 hi g n cap cur hg ⟨g, made * 6, none⟩ (tot - made) c2 (xs.drop (made * 6)) (by rw [hz1, hdl])
    (fun j u hu => by
      have hj : j < (tot - made) * 6 := by rw [← hdl]; exact (List.getElem?_eq_some_iff.1 hu).1
      rw [show (⟨g, made * 6, none⟩ : Addr).add j = ⟨g, made * 6 + j, none⟩ by unfold Addr.add; split <;> simp_all, hown.cellAt _ (by omega)]
      rw [List.getElem?_drop] at hu
      exact hu)
    (fun u hu => h1.one u (List.mem_of_mem_drop hu)) (by omega) (by rw [hz1, hdl, hcs]; omega)
  rw [hz1] at hr
  have hrow := setRow_heap w g cur (cur.toList.take (n * 6) ++ xs.drop (made * 6) ++ cur.toList.drop (n * 6 + (xs.drop (made * 6)).length)).toArray 44 _ hg
  have htk : cur.toList.take (n * 6) = xs.take (n * 6) := by
    rw [← htake, List.take_take]
    congr 1
    omega
  have hnl : (xs.take (n * 6) ++ xs.drop (made * 6)).length = (n + (tot - made)) * 6 := by
    rw [List.length_append, hdl, List.length_take, hxl, Nat.min_eq_left (by omega)]
    omega
  refine ⟨_, hr, ⟨hnl, .inr ⟨g, cap, _, rfl, hbg, hrow, by omega, hcm, ?_, ?_⟩⟩, ⟨rfl, rfl, rfl, by simp, fun k hk => setRow_other w g k _ (by omega)⟩, by simp⟩
  · simp only [List.size_toArray, List.length_append, List.length_take, List.length_drop, Array.length_toList]
    omega
  · simp only []
    rw [htk, ← hnl]
    exact List.take_left

theorem step_append_cut {ops : Array Oper} {o : Oper} {a : Act} {w : World} {K : Act → World → Prop} {Q : Exit → Act → World → Prop} {E : Prop} (hgd : o.guard = none) (s x : Operand) (hop : o.op = .call { callee := .builtin .append, args := #[s, x], argTypes := #[40, 40] })
    (B g n made tot cap c2 : Nat) (xs : List Value) (hs : a.eval s = .slice (some ⟨g, 0, none⟩) n cap) (hx : a.eval x = .slice (some ⟨g, made * 6, none⟩) (tot - made) c2) (hown : w.ownsRow B 44 6 (.slice (some ⟨g, 0, none⟩) tot cap) tot xs) (h1 : Strs xs) (hnm : n ≤ made) (hmt : made ≤ tot)
    (h : ∀ w', w'.ownsRow B 44 6 (.slice (some ⟨g, 0, none⟩) (n + (tot - made)) cap) (n + (tot - made)) (xs.take (n * 6) ++ xs.drop (made * 6)) → Below B w w' → K (a.put o.dst (.slice (some ⟨g, 0, none⟩) (n + (tot - made)) cap)) w') :
    if Region.wanted o (yielded ops a.tmps) = true then Oper.wp Try.prog o a w K Q else E := by
  have hw : Region.wanted o (yielded ops a.tmps) = true := by simp [Region.wanted, hgd]
  rw [if_pos hw]
  obtain ⟨w', hr, h2, h3, _⟩ := append_cut w B g n made tot cap c2 xs o.type hown h1 hnm hmt
  unfold Oper.wp execOp
  simp only [hop, resolve, invoke, builtin, Sem.run_bind, Sem.run_pure, Result.andThen_ok, List.map_toArray, List.map_cons, List.map_nil, hs, hx, hr]
  exact h w' h2 h3

/-! ### The plain law -/
def setK (k : Nat) (s : Sl) (f : Pr) : Sl := if k = 1 then { s with b := f } else { s with c := f }
def fieldK (k : Nat) (s : Sl) : Pr := if k = 1 then s.b else s.c
def useK (s : Sl) (V : Nat → List Pr) (k : Nat) : Bool := (fieldK k s).v.toList.isEmpty && !(V k).isEmpty
def upTo (s : Sl) (V : Nat → List Pr) : Nat → List Sl
  | 0 => [s]
  | k + 1 => if useK s V (k + 1) then (V (k + 1)).flatMap (fun f => (upTo s V k).map (fun c => setK (k + 1) c f)) else upTo s V k

theorem flat_length {α β : Type} (vs : List α) (L : List β) (f : α → β → β) : (vs.flatMap (fun v => L.map (f v))).length = vs.length * L.length := by
  induction vs with
  | nil => simp
  | cons v r ih => simp [ih, Nat.add_mul]; omega
theorem upTo_pos (s : Sl) (V : Nat → List Pr) : ∀ k, 1 ≤ (upTo s V k).length
  | 0 => by simp [upTo]
  | k + 1 => by
    have := upTo_pos s V k
    simp only [upTo]
    split
    · rename_i h
      rw [flat_length (V (k + 1)) (upTo s V k) (fun f c => setK (k + 1) c f)]
      have hv : 1 ≤ (V (k + 1)).length := by
        simp [useK] at h
        rcases hl : V (k + 1) with _ | ⟨x, r⟩
        · exact absurd hl h.2
        · simp
      exact Nat.mul_pos hv this
    · exact this

theorem upTo_skip {s : Sl} {V : Nat → List Pr} {k : Nat} (h : ¬ (fieldK (k + 1) s).v.toList = [] ∨ (V (k + 1)).length = 0) : upTo s V (k + 1) = upTo s V k := by
  simp only [upTo]
  rw [if_neg]
  intro hu
  simp [useK] at hu
  rcases h with h | h
  · exact h hu.1
  · exact hu.2 (List.eq_nil_of_length_eq_zero h)
theorem upTo_use {s : Sl} {V : Nat → List Pr} {k : Nat} (h1 : (fieldK (k + 1) s).v.toList = []) (h2 : (V (k + 1)).length ≠ 0) : upTo s V (k + 1) = (V (k + 1)).flatMap (fun f => (upTo s V k).map (fun c => setK (k + 1) c f)) := by
  simp only [upTo]
  rw [if_pos]
  simp [useK, h1]
  intro h
  rw [h] at h2
  exact h2 rfl
theorem not_use {p : Prop} {n : Nat} (h : ¬ (p ∧ n ≠ 0)) : ¬ p ∨ n = 0 := by
  by_cases hp : p
  · exact .inr (by by_cases hn : n = 0; exact hn; exact absurd ⟨hp, hn⟩ h)
  · exact .inl hp
theorem upTo_len (s : Sl) (V : Nat → List Pr) (hV : ∀ k, k = 1 ∨ k = 2 → (V k).length ≤ 4096) : (upTo s V 1).length ≤ 4096 ∧ (upTo s V 2).length ≤ 16777216 := by
  have one : (upTo s V 1).length ≤ 4096 := by
    by_cases h : (fieldK 1 s).v.toList = [] ∧ (V 1).length ≠ 0
    · rw [upTo_use (k := 0) h.1 h.2, flat_length (V (0 + 1)) (upTo s V 0) (fun f c => setK (0 + 1) c f)]
      have := hV 1 (.inl rfl)
      simp [upTo]
      exact this
    · rw [upTo_skip (k := 0) (not_use h)]
      simp [upTo]
  refine ⟨one, ?_⟩
  by_cases h : (fieldK 2 s).v.toList = [] ∧ (V 2).length ≠ 0
  · rw [upTo_use (k := 1) h.1 h.2, flat_length (V (1 + 1)) (upTo s V 1) (fun f c => setK (1 + 1) c f)]
    have := hV 2 (.inr rfl)
    exact Nat.le_trans (Nat.mul_le_mul this one) (by omega)
  · rw [upTo_skip (k := 1) (not_use h)]
    omega

/-- What has been appended after i values. -/
def part (K : Nat) (vs : List Pr) (L : List Sl) (i : Nat) : List Sl := (vs.take i).flatMap (fun f => L.map (fun c => setK K c f))
theorem part_length (K : Nat) (vs : List Pr) (L : List Sl) (i : Nat) (hi : i ≤ vs.length) : (part K vs L i).length = i * L.length := by
  unfold part
  rw [flat_length (vs.take i) L (fun f c => setK K c f), List.length_take, Nat.min_eq_left hi]
theorem part_succ (K : Nat) (vs : List Pr) (L : List Sl) (i : Nat) (f : Pr) (h : vs[i]? = some f) : part K vs L (i + 1) = part K vs L i ++ L.map (fun c => setK K c f) := by
  unfold part
  rw [List.take_add_one, h, List.flatMap_append]
  simp
theorem part_all (K : Nat) (vs : List Pr) (L : List Sl) (i : Nat) (h : vs.length ≤ i) : part K vs L i = vs.flatMap (fun f => L.map (fun c => setK K c f)) := by
  unfold part
  rw [List.take_of_length_le h]

/-- The state of the innermost loop: x of L's elements have been taken with f in place k. -/
structure L3 (B : Nat) (w1 : World) (K : Nat) (vs : List Pr) (L ts : List Sl) (n i tot2 g fb : Nat) (f : Pr) (x g1 cap1 tot3 : Nat) (wx : World) : Prop where
  tot : tot3 = tot2 + x
  own : wx.ownsRow B 44 6 (.slice (some ⟨g1, 0, none⟩) tot3 cap1) tot3 (rowS (ts ++ (L ++ (part K vs L i ++ (L.take x).map (fun c => setK K c f)))))
  below : Below B w1 wx
  range : ∀ o v, (rowS L)[o]? = some v → wx.cell? ⟨g, n * 6 + o, none⟩ = some v
  f0 : wx.cell? ⟨fb, 0, none⟩ = some (.string f.k)
  f1 : wx.cell? ⟨fb, 1, none⟩ = some (.string f.v)
  ne : fb ≠ g1
  base : B ≤ wx.heap.size

theorem L3.next {B : Nat} {w1 : World} {K : Nat} {vs : List Pr} {L ts : List Sl} {n i tot2 g fb : Nat} {f : Pr} {x g1 cap1 tot3 : Nat} {wx : World} (h : L3 B w1 K vs L ts n i tot2 g fb f x g1 cap1 tot3 wx) {y : Sl} (hy : L[x]? = some y) {C C' : Obj} {w4 : World} {g2 cap2 : Nat} {news : List Value}
    (hown4 : w4.ownsRow B 44 6 (.slice (some ⟨g2, 0, none⟩) (tot3 + 1) cap2) (tot3 + 1) (rowS (ts ++ (L ++ (part K vs L i ++ (L.take x).map (fun c => setK K c f)))) ++ news)) (hnews : news = (setK K y f).cells)
    (hgr : Grew B ((wx.alloc C).alloc C') g1 tot3 w4 g2) (hnb : n + L.length ≤ tot3) : L3 B w1 K vs L ts n i tot2 g fb f (x + 1) g2 cap2 (tot3 + 1) w4 := by
  have keep : ∀ b o v, wx.cell? ⟨b, o, none⟩ = some v → (b = g1 → o < tot3 * 6) → w4.cell? ⟨b, o, none⟩ = some v := fun b o v hv hc => by
    have hlt : b < wx.heap.size := World.block_lt_of_cell? _ _ hv
    refine hgr.keep b o v ?_ hc
    rw [World.cell?_alloc_past _ _ _ (by simp; omega), World.cell?_alloc_past _ _ _ hlt]
    exact hv
  have hfl : fb < wx.heap.size := World.block_lt_of_cell? _ _ h.f0
  refine ⟨by rw [h.tot]; omega, ?_, ?_, fun o v hv => keep _ _ _ (h.range o v hv) (fun _ => ?_), keep _ _ _ h.f0 (fun e => absurd e h.ne), keep _ _ _ h.f1 (fun e => absurd e h.ne), ?_, ?_⟩
  · have e : ts ++ (L ++ (part K vs L i ++ (L.take (x + 1)).map (fun c => setK K c f))) = (ts ++ (L ++ (part K vs L i ++ (L.take x).map (fun c => setK K c f)))) ++ [setK K y f] := by
      rw [List.take_add_one, hy]
      simp
    rw [e, rowS_append, show rowS [setK K y f] = (setK K y f).cells by simp [rowS], ← hnews]
    exact hown4
  · exact (h.below.trans (((Below.refl B wx).alloc h.base _).alloc (by have := h.base; simp; omega) _)).trans hgr.below
  · have ho : o < L.length * 6 := by rw [← rowS_length]; exact (List.getElem?_eq_some_iff.1 hv).1
    omega
  · rcases hgr.where_ with e | e
    · rw [e]; exact h.ne
    · rw [e]; simp; omega
  · have := hgr.below.size
    have := h.base
    simp at *
    omega

theorem cut_row (ts L P : List Sl) (n : Nat) (h : ts.length = n) : (rowS (ts ++ (L ++ P))).take (n * 6) ++ (rowS (ts ++ (L ++ P))).drop ((n + L.length) * 6) = rowS (ts ++ P) := by
  have h1 : (rowS ts).length = n * 6 := by rw [rowS_length, h]
  have h2 : (rowS (ts ++ L)).length = (n + L.length) * 6 := by rw [rowS_length, List.length_append, h]
  rw [← List.append_assoc, rowS_append (ts ++ L) P, List.drop_left' h2, rowS_append ts L, List.append_assoc, List.take_left' h1, rowS_append]
end Go.Proofs.Qxb6604664a
