import Derived.Test.Qxb6604592aSlices
import Derived.Laws.CopyOwn
import Derived.OwnWalk
namespace Go.Proofs.Qxb6604592a
open Go.RowKit Go.Maps

/-- copy(dst, src) at elements of sz cells, dst a row that is known whole. -/
theorem run_copy_wide {P : Program} (w : World) (dT sT ty elem : TypeId) (sz g o dLen dCap : Nat) (a : Addr) (sLen sCap : Nat) (cur : Array Value) (t : TypeId) (cs : List Value)
    (hu : P.underlying dT = some (.slice elem)) (hs : (P.info? elem).map (·.size) = some sz)
    (hg : w.heap[g]? = some (.cells cur t (0, 0))) (hn : cs.length = Nat.min sLen dLen * sz)
    (hsrc : ∀ j v, cs[j]? = some v → w.cell? (a.add j) = some v) (hfit : o + cs.length ≤ cur.size) (h1 : ∀ v ∈ cs, v.oneCell' = true) :
    (Builtin.copy_ #[dT, sT] ty #[.slice (some ⟨g, o, none⟩) dLen dCap, .slice (some a) sLen sCap]).run P w =
      .ok (goInt (Nat.min sLen dLen)) (w.setRow g (cur.toList.take o ++ cs ++ cur.toList.drop (o + cs.length)).toArray) := by
  have hl := run_loadCells_list (P := P) w a cs hsrc
  have hst := run_storeCells_at P g o t cs 0 cur w hg (by simpa using hfit) h1
  cases hq : P.info? elem with
  | none => simp [hq] at hs
  | some i =>
    have hi : i.size = sz := by simpa [hq] using hs
    simp [Builtin.copy_, run_underlying hu, Builtin.lenOf, Builtin.firstCells, sizeOf, typeInfo, hq, hi, ← hn, hl, hst]

theorem wpList_copy_wide {P : Program} {w : World} {ops : Array Oper} {rest : List Oper} {o : Oper} {a : Act} {Q : Exit → Act → World → Prop} (hgd : o.guard = none) (d s : Operand) (dT sT : TypeId)
    (ho : o.op = .call { callee := .builtin .copy, args := #[d, s], argTypes := #[dT, sT] }) (elem : TypeId) (hu : P.underlying dT = some (.slice elem)) (sz : Nat) (hsz : (P.info? elem).map (·.size) = some sz)
    (g off dLen dCap : Nat) (ad : Addr) (sLen sCap : Nat) (hd : a.eval d = .slice (some ⟨g, off, none⟩) dLen dCap) (hs : a.eval s = .slice (some ad) sLen sCap)
    (cur : Array Value) (t : TypeId) (hg : w.heap[g]? = some (.cells cur t (0, 0))) (cs : List Value) (hn : cs.length = Nat.min sLen dLen * sz)
    (hsrc : ∀ j v, cs[j]? = some v → w.cell? (ad.add j) = some v) (hfit : off + cs.length ≤ cur.size) (h1 : ∀ v ∈ cs, v.oneCell' = true)
    (h : wpList P ops Q rest (a.put o.dst (goInt (Nat.min sLen dLen))) (w.setRow g (cur.toList.take off ++ (cs ++ cur.toList.drop (off + cs.length))).toArray)) : wpList P ops Q (o :: rest) a w := by
  refine wpList_plain hgd fun K hK => ?_
  have hrun := run_copy_wide (P := P) w dT sT o.type elem sz g off dLen dCap ad sLen sCap cur t cs hu hsz hg hn hsrc hfit h1
  unfold Oper.wp
  simp [execOp, ho, resolve, invoke, builtin, hd, hs, hrun, Result.andThen]
  exact hK _ _ h

/-- The five cells of a step. -/
def St.cells (s : St) : List Value := [.string s.path, .string s.name, .int .i64 s.size, .int .i64 s.pl, .int .i64 s.files]
def rowOf (ss : List St) : List Value := ss.flatMap St.cells
theorem rowOf_length (ss : List St) : (rowOf ss).length = ss.length * 5 := by
  induction ss with
  | nil => rfl
  | cons s r ih => simp [rowOf, St.cells] at ih ⊢; omega
theorem rowOf_get (ss : List St) (i j : Nat) (s : St) (h : ss[i]? = some s) (hj : j < 5) : (rowOf ss)[i * 5 + j]? = s.cells[j]? := by
  induction ss generalizing i with
  | nil => simp at h
  | cons t r ih =>
    cases i with
    | zero =>
      simp at h; subst h
      simp only [rowOf, List.flatMap_cons, Nat.zero_mul, Nat.zero_add]
      rw [List.getElem?_append_left (by simp [St.cells]; omega)]
    | succ i =>
      simp only [List.getElem?_cons_succ] at h
      have := ih i h
      simp only [rowOf, List.flatMap_cons] at this ⊢
      rw [List.getElem?_append_right (by simp [St.cells]; omega)]
      have e : (i + 1) * 5 + j - t.cells.length = i * 5 + j := by simp [St.cells]; omega
      rw [e]; exact this
theorem rowOf_oneCell (ss : List St) : ∀ v ∈ rowOf ss, v.oneCell' = true := by
  intro v hv
  simp only [rowOf, List.mem_flatMap, St.cells] at hv
  obtain ⟨s, _, h⟩ := hv
  simp at h
  rcases h with rfl | rfl | rfl | rfl | rfl <;> rfl
theorem rowOf_at {w : World} {b off : Nat} {ss : List St} (h : StepsAt w b off ss) (j : Nat) (v : Value) (hv : (rowOf ss)[j]? = some v) : w.cell? ⟨b, off + j, none⟩ = some v := by
  have hj : j < ss.length * 5 := by rw [← rowOf_length]; exact (List.getElem?_eq_some_iff.1 hv).1
  have hi : j / 5 < ss.length := by omega
  obtain ⟨s, hs⟩ : ∃ s, ss[j / 5]? = some s := ⟨_, List.getElem?_eq_getElem hi⟩
  have e : j / 5 * 5 + j % 5 = j := by omega
  have hr := rowOf_get ss (j / 5) (j % 5) s hs (by omega)
  rw [e, hv] at hr
  obtain ⟨⟨k0, k1, k2, k3, k4⟩, -⟩ := h (j / 5) s hs
  rw [← e, ← Nat.add_assoc]
  have h5 : j % 5 = 0 ∨ j % 5 = 1 ∨ j % 5 = 2 ∨ j % 5 = 3 ∨ j % 5 = 4 := by omega
  rcases h5 with h5 | h5 | h5 | h5 | h5 <;> rw [h5] at hr ⊢ <;> simp [St.cells] at hr <;> subst hr <;> assumption

theorem Try.info30 : (Try.prog.info? 30).map (fun i => (i.zero, i.size, i.bytes)) = some (some (.agg #[.string ByteArray.empty, .string ByteArray.empty, .int .i64 0, .int .i64 0, .int .i64 0]), 5, 56) := by kernel_rfl
theorem Try.size30 : (Try.prog.info? 30).map (·.size) = some 5 := by kernel_rfl

set_option maxHeartbeats 400000 in
theorem copy_nil (w : World) : Calls Try.prog 7 #[.slice none 0 0] w fun e w' => e = .returned (.slice none 0 0) ∧ w' = w := by
  have q22 := fun (w : World) (a : Option Addr) (n c : Nat) => Lib.run_eql_slice_nil (P := Try.prog) w 22 30 a n c 0 0 Try.underlying22
  go_enter Try.func7, Try.ntmps7
  go_wp2
  go_ret
  exact ⟨rfl, rfl⟩

set_option maxHeartbeats 400000 in
theorem copy_some (ad : Addr) (len cap : Nat) (ss : List St) (w : World) (hl : ss.length = len) (hsrc : ∀ j v, (rowOf ss)[j]? = some v → w.cell? (ad.add j) = some v) (hm : len ≤ 1024) :
    Calls Try.prog 7 #[.slice (some ad) len cap] w fun e w' => e = .returned (.slice (some ⟨w.heap.size, 0, none⟩) len len) ∧ Below w.heap.size w w' ∧
      w'.heap[w.heap.size]? = some (.cells (rowOf ss).toArray 30) := by
  have q22 := fun (w : World) (a : Option Addr) (n c : Nat) => Lib.run_eql_slice_nil (P := Try.prog) w 22 30 a n c 0 0 Try.underlying22
  obtain ⟨i0, hi, hz0, hz1, hz2⟩ := info_parts Try.info30
  have hmk := fun (w : World) => run_make (P := Try.prog) w 22 30 i0 _ Try.underlying22 hi hz0 .i64 .i64 len len (by omega) (by omega) (by rw [hz2]; omega) (by omega)
  simp only [Int.toNat_natCast, hz1] at hmk
  obtain ⟨Z, hZ⟩ : ∃ Z, Z = madeCells (Value.agg #[.string ByteArray.empty, .string ByteArray.empty, .int .i64 0, .int .i64 0, .int .i64 0]).cells (len * 5) := ⟨_, rfl⟩
  rw [← hZ] at hmk
  have hZs : Z.size = len * 5 := by rw [hZ, size_madeCells]
  have hcs : (rowOf ss).length = len * 5 := by rw [rowOf_length, hl]
  have hb : ∀ w : World, Below w.heap.size w (w.alloc (.cells Z 30)) := fun w => (Below.refl _ _).alloc (Nat.le_refl _) _
  have hh := (MapKept.heap_alloc w (.cells Z 30)).1
  have hcp := run_copy_wide (P := Try.prog) (w.alloc (.cells Z 30)) 22 22 3 30 5 w.heap.size 0 len len ad len cap Z 30 (rowOf ss) Try.underlying22 Try.size30 hh (by rw [hcs]; congr 1; exact (Nat.min_self len).symm)
    (fun j v hv => by
      have h0 := hsrc j v hv
      have hlt : (ad.add j).block < w.heap.size := World.block_lt_of_cell? _ _ h0
      rw [(hb w).cell hlt]; exact h0)
    (by simp; omega) (rowOf_oneCell ss)
  have hrow : ∀ w2 : World, w2 = (w.alloc (.cells Z 30)).setRow w.heap.size (Z.toList.take 0 ++ rowOf ss ++ Z.toList.drop (0 + (rowOf ss).length)).toArray →
      Below w.heap.size w w2 ∧ w2.heap[w.heap.size]? = some (.cells (rowOf ss).toArray 30) := by
    intro w2 e
    subst e
    refine ⟨below_setRow (hb w) (Nat.le_refl _) _, ?_⟩
    rw [setRow_heap _ _ _ _ _ _ hh]
    have : Z.toList.drop (0 + (rowOf ss).length) = [] := List.drop_eq_nil_of_le (by simp; omega)
    rw [this]
    simp
  obtain ⟨w2, hw2⟩ : ∃ w2, w2 = (w.alloc (.cells Z 30)).setRow w.heap.size (Z.toList.take 0 ++ rowOf ss ++ Z.toList.drop (0 + (rowOf ss).length)).toArray := ⟨_, rfl⟩
  rw [← hw2] at hcp
  obtain ⟨r1, r2⟩ := hrow w2 hw2
  have R2 : Hid (w2.heap[w.heap.size]? = some (.cells (rowOf ss).toArray 30)) := r2
  clear hrow hw2 hcs hZs hsrc hl hZ hh r2
  go_enter Try.func7, Try.ntmps7
  go_wp2
  go_ret
  exact ⟨rfl, r1, R2.out⟩
end Go.Proofs.Qxb6604592a
