import Derived.Test.Qxb6604664aZzC
namespace Go.Proofs.Qxb6604664a
open Go.RowKit Go.Maps

theorem zzchoices_any (s : Sl) (gs : ByteArray) (a1 a2 a3 : Option Addr) (l1 c1 l2 c2 l3 c3 : Nat) (v1 v2 : List Pr) (ts out : List Sl) (w : World) (hout : out = ts ++ upTo s (Vof (gs.toList == s.a.v.toList) v1 v2) 2) (hgs : gs.size ≤ maxLen) (hst : s.a.v.size ≤ maxLen)
    (h1 : SliceOf w a1 l1 2 (rowP v1)) (e1 : v1.length = l1) (n1 : a1 = none → l1 = 0 ∧ c1 = 0) (m1 : l1 ≤ 4096) (h2 : SliceOf w a2 l2 2 (rowP v2)) (e2 : v2.length = l2) (n2 : a2 = none → l2 = 0 ∧ c2 = 0) (m2 : l2 ≤ 4096)
    (h3 : SliceOf w a3 l3 6 (rowS ts)) (e3 : ts.length = l3) (n3 : a3 = none → l3 = 0 ∧ c3 = 0) (m3 : l3 ≤ 4096) :
    Calls Try.prog 11 #[.agg #[.string s.a.k, .string s.a.v, .string s.b.k, .string s.b.v, .string s.c.k, .string s.c.v], .string gs, .slice a1 l1 c1, .slice a2 l2 c2, .slice a3 l3 c3] w fun e w' => ChoPost w out e w' := by
  cases a3 with
  | none =>
    obtain ⟨rfl, rfl⟩ := n3 rfl
    have ht : ts = [] := List.eq_nil_of_length_eq_zero e3
    subst ht
    exact zzchoices_nil s gs a1 a2 l1 c1 l2 c2 v1 v2 out w hout hgs hst h1 e1 n1 m1 h2 e2 n2 m2
  | some ad3 => exact zzchoices_some s gs a1 a2 ad3 l1 c1 l2 c2 l3 c3 ts v1 v2 out w hout hgs hst h1 e1 n1 m1 h2 e2 n2 m2 h3 m3 e3

/-! ### The product -/
def mk3 (s : Sl) (f1 f2 : Pr) : Sl := { a := s.a, b := f1, c := f2 }
def prodL (s : Sl) (o1 o2 : List Pr) : List Sl := o2.flatMap (fun f2 => o1.map (fun f1 => mk3 s f1 f2))
theorem prodL_length (s : Sl) (o1 o2 : List Pr) : (prodL s o1 o2).length = o2.length * o1.length := by
  unfold prodL
  induction o2 with
  | nil => simp
  | cons x r ih => simp [ih, Nat.add_mul]; omega
theorem prodL_get (s : Sl) (o1 o2 : List Pr) (i j : Nat) (f1 f2 : Pr) (h2 : o2[i]? = some f2) (h1 : o1[j]? = some f1) : (prodL s o1 o2)[i * o1.length + j]? = some (mk3 s f1 f2) := by
  have hj := (List.getElem?_eq_some_iff.1 h1).1
  unfold prodL
  induction o2 generalizing i with
  | nil => simp at h2
  | cons x r ih =>
    simp only [List.flatMap_cons]
    cases i with
    | zero =>
      simp at h2; subst h2
      rw [List.getElem?_append_left (by simp; omega)]
      simp [h1]
    | succ i =>
      simp only [List.getElem?_cons_succ] at h2
      rw [List.getElem?_append_right (by simp [Nat.succ_mul]; omega)]
      have e : (i + 1) * o1.length + j - (o1.map (fun f1 => mk3 s f1 x)).length = i * o1.length + j := by simp [Nat.succ_mul]; omega
      rw [e]
      exact ih i h2

theorem use_iff {s : Sl} {own : Bool} {v1 v2 : List Pr} {k : Nat} {vk : List Pr} (hv : Vof true v1 v2 k = vk) : useK s (Vof own v1 v2) k = (own && (fieldK k s).v.toList.isEmpty && !vk.isEmpty) := by
  cases own
  · simp [useK, Vof]
  · simp [useK, hv]

theorem one_eq (s : Sl) (own : Bool) (v1 v2 : List Pr) : upTo s (Vof own v1 v2) 1 = (optsK s 1 own v1).map (fun f1 => mk3 s f1 s.c) := by
  simp only [upTo, optsK]
  rw [use_iff (vk := v1) (by simp [Vof])]
  split
  · rename_i h
    have ho : own = true := by simp at h; exact h.1.1
    subst ho
    simp only [Vof, if_true]
    rw [List.map_eq_flatMap]
    congr
  · rfl
theorem prod_eq (s : Sl) (own : Bool) (v1 v2 : List Pr) : upTo s (Vof own v1 v2) 2 = prodL s (optsK s 1 own v1) (optsK s 2 own v2) := by
  have h1 := one_eq s own v1 v2
  rw [show upTo s (Vof own v1 v2) 2 = (if useK s (Vof own v1 v2) 2 then (Vof own v1 v2 2).flatMap (fun f => (upTo s (Vof own v1 v2) 1).map (fun c => setK 2 c f)) else upTo s (Vof own v1 v2) 1) from rfl, h1, use_iff (vk := v2) (by simp [Vof])]
  unfold prodL
  have hm : ∀ f, ((optsK s 1 own v1).map (fun f1 => mk3 s f1 s.c)).map (fun c => setK 2 c f) = (optsK s 1 own v1).map (fun f1 => mk3 s f1 f) := fun f => by
    rw [List.map_map]
    rfl
  split
  · rename_i h
    have ho : own = true := by simp at h; exact h.1.1
    subst ho
    rw [show optsK s 2 true v2 = v2 by unfold optsK; rw [if_pos h]]
    simp only [hm, Vof, if_true]
    rfl
  · rename_i h
    rw [show optsK s 2 own v2 = [fieldK 2 s] by unfold optsK; rw [if_neg h]]
    simp [fieldK]
theorem opts_len (s : Sl) (k : Nat) (own : Bool) (vs : List Pr) (h : vs.length ≤ 4096) : (optsK s k own vs).length ≤ 4096 := by
  unfold optsK
  split
  · exact h
  · simp
end Go.Proofs.Qxb6604664a
