import Derived.Test.Qxb6604664aPlain
namespace Go.Proofs.Qxb6604664a
open Go.RowKit Go.Maps

/-- The options at selector k. -/
def optsK (s : Sl) (k : Nat) (own : Bool) (vs : List Pr) : List Pr := if own && (fieldK k s).v.toList.isEmpty && !vs.isEmpty then vs else [fieldK k s]

theorem opts_use {s : Sl} {k : Nat} {vs : List Pr} (h1 : (fieldK k s).v.toList = []) (h2 : vs.length ≠ 0) : optsK s k true vs = vs := by
  unfold optsK
  rw [if_pos]
  have : vs ≠ [] := fun e => h2 (by rw [e]; rfl)
  simp [h1, this]
theorem opts_no {s : Sl} {k : Nat} {vs : List Pr} {own : Bool} (h : own = false ∨ ¬ (fieldK k s).v.toList = [] ∨ vs.length = 0) : optsK s k own vs = [fieldK k s] := by
  unfold optsK
  rw [if_neg]
  rcases h with rfl | h | h
  · simp
  · simp [h]
  · simp [List.eq_nil_of_length_eq_zero h]

/-- A fresh slice of one pair. -/
theorem fresh2 (w1 : World) (g : Nat) (p : Pr) (hg : g = w1.heap.size) : SliceOf (w1.alloc (.cells #[.string p.k, .string p.v] 22)) (some ⟨g, 0, none⟩) 1 2 (rowP [p]) := by
  subst hg
  refine ⟨by simp [rowP, Pr.cells], by unfold maxLen; omega, fun _ => ⟨_, 0, rfl, fun j v hv => ?_⟩⟩
  rw [Nat.zero_add, World.cell?_alloc_at _ _ _ _ rfl]
  simpa [rowP, Pr.cells] using hv

def OptPost (w : World) (opts : List Pr) (e : Ending) (w' : World) : Prop := ∃ a' c', e = .returned (.slice a' opts.length c') ∧ SliceOf w' a' opts.length 2 (rowP opts) ∧ Below w.heap.size w w'

set_option maxHeartbeats 400000 in
theorem options_1 (s : Sl) (own : Bool) (a : Option Addr) (len cap : Nat) (vs : List Pr) (w : World) (hl : vs.length = len) (h : SliceOf w a len 2 (rowP vs)) :
    Calls Try.prog 12 #[.agg #[.string s.a.k, .string s.a.v, .string s.b.k, .string s.b.v, .string s.c.k, .string s.c.v], .int .i64 1, .bool own, .slice a len cap] w fun e w' => OptPost w (optsK s 1 own vs) e w' := by
  have hm := h.most
  unfold maxLen at hm
  have hb1 : Below w.heap.size w (w.alloc (.cells #[.string s.a.k, .string s.a.v, .string s.b.k, .string s.b.v, .string s.c.k, .string s.c.v] 23)) := below_al (Below.refl _ _) _
  have HV : Hid (vs.length = len) := hl
  clear hl
  cases own
  · have HU : Hid (optsK s 1 false vs = [fieldK 1 s]) := opts_no (.inl rfl)
    go_enter Try.func12, Try.ntmps12
    go_wp2
    go_ret
    exact ⟨_, _, by rw [HU.out]; rfl, by rw [HU.out]; exact fresh2 _ _ (fieldK 1 s) (by simp), below_al hb1 _⟩
  · by_cases hE : s.b.v.toList = []
    · by_cases hZ : len = 0
      · have HU : Hid (optsK s 1 true vs = [fieldK 1 s]) := opts_no (.inr (.inr (HV.out.trans hZ)))
        have hz : (len : Int) ≤ 0 := by omega
        clear hZ
        go_enter Try.func12, Try.ntmps12
        go_wp2
        go_ret
        exact ⟨_, _, by rw [HU.out]; rfl, by rw [HU.out]; exact fresh2 _ _ (fieldK 1 s) (by simp), below_al hb1 _⟩
      · have HU : Hid (optsK s 1 true vs = vs) := opts_use hE (by rw [HV.out]; exact hZ)
        have hz : (0 : Int) < (len : Int) := by omega
        clear hZ
        go_enter Try.func12, Try.ntmps12
        go_wp2
        go_ret
        exact ⟨a, cap, by rw [HU.out, HV.out]; rfl, by rw [HU.out, HV.out]; exact h.below hb1, hb1⟩
    · have HU : Hid (optsK s 1 true vs = [fieldK 1 s]) := opts_no (.inr (.inl hE))
      go_enter Try.func12, Try.ntmps12
      go_wp2
      go_ret
      exact ⟨_, _, by rw [HU.out]; rfl, by rw [HU.out]; exact fresh2 _ _ (fieldK 1 s) (by simp), below_al hb1 _⟩

set_option maxHeartbeats 400000 in
theorem count_1 (s : Sl) (own : Bool) (a : Option Addr) (len cap : Nat) (vs : List Pr) (w : World) (hl : vs.length = len) (h : SliceOf w a len 2 (rowP vs)) :
    Calls Try.prog 14 #[.agg #[.string s.a.k, .string s.a.v, .string s.b.k, .string s.b.v, .string s.c.k, .string s.c.v], .int .i64 1, .bool own, .slice a len cap] w fun e w' => e = .returned (.int .i64 ((optsK s 1 own vs).length : Int)) ∧ Below w.heap.size w w' := by
  have hm := h.most
  unfold maxLen at hm
  have hb1 : Below w.heap.size w (w.alloc (.cells #[.string s.a.k, .string s.a.v, .string s.b.k, .string s.b.v, .string s.c.k, .string s.c.v] 23)) := below_al (Below.refl _ _) _
  have HV : Hid (vs.length = len) := hl
  clear hl
  cases own
  · have HU : Hid (optsK s 1 false vs = [fieldK 1 s]) := opts_no (.inl rfl)
    go_enter Try.func14, Try.ntmps14
    go_wp2
    go_ret
    exact ⟨by rw [HU.out]; rfl, hb1⟩
  · by_cases hE : s.b.v.toList = []
    · by_cases hZ : len = 0
      · have HU : Hid (optsK s 1 true vs = [fieldK 1 s]) := opts_no (.inr (.inr (HV.out.trans hZ)))
        have hz : (len : Int) ≤ 0 := by omega
        clear hZ
        go_enter Try.func14, Try.ntmps14
        go_wp2
        go_ret
        exact ⟨by rw [HU.out]; rfl, hb1⟩
      · have HU : Hid (optsK s 1 true vs = vs) := opts_use hE (by rw [HV.out]; exact hZ)
        have hz : (0 : Int) < (len : Int) := by omega
        clear hZ
        go_enter Try.func14, Try.ntmps14
        go_wp2
        go_ret
        exact ⟨by rw [HU.out, HV.out]; rfl, hb1⟩
    · have HU : Hid (optsK s 1 true vs = [fieldK 1 s]) := opts_no (.inr (.inl hE))
      go_enter Try.func14, Try.ntmps14
      go_wp2
      go_ret
      exact ⟨by rw [HU.out]; rfl, hb1⟩

set_option maxHeartbeats 400000 in
theorem options_2 (s : Sl) (own : Bool) (a : Option Addr) (len cap : Nat) (vs : List Pr) (w : World) (hl : vs.length = len) (h : SliceOf w a len 2 (rowP vs)) :
    Calls Try.prog 12 #[.agg #[.string s.a.k, .string s.a.v, .string s.b.k, .string s.b.v, .string s.c.k, .string s.c.v], .int .i64 2, .bool own, .slice a len cap] w fun e w' => OptPost w (optsK s 2 own vs) e w' := by
  have hm := h.most
  unfold maxLen at hm
  have hb1 : Below w.heap.size w (w.alloc (.cells #[.string s.a.k, .string s.a.v, .string s.b.k, .string s.b.v, .string s.c.k, .string s.c.v] 23)) := below_al (Below.refl _ _) _
  have HV : Hid (vs.length = len) := hl
  clear hl
  cases own
  · have HU : Hid (optsK s 2 false vs = [fieldK 2 s]) := opts_no (.inl rfl)
    go_enter Try.func12, Try.ntmps12
    go_wp2
    go_ret
    exact ⟨_, _, by rw [HU.out]; rfl, by rw [HU.out]; exact fresh2 _ _ (fieldK 2 s) (by simp), below_al hb1 _⟩
  · by_cases hE : s.c.v.toList = []
    · by_cases hZ : len = 0
      · have HU : Hid (optsK s 2 true vs = [fieldK 2 s]) := opts_no (.inr (.inr (HV.out.trans hZ)))
        have hz : (len : Int) ≤ 0 := by omega
        clear hZ
        go_enter Try.func12, Try.ntmps12
        go_wp2
        go_ret
        exact ⟨_, _, by rw [HU.out]; rfl, by rw [HU.out]; exact fresh2 _ _ (fieldK 2 s) (by simp), below_al hb1 _⟩
      · have HU : Hid (optsK s 2 true vs = vs) := opts_use hE (by rw [HV.out]; exact hZ)
        have hz : (0 : Int) < (len : Int) := by omega
        clear hZ
        go_enter Try.func12, Try.ntmps12
        go_wp2
        go_ret
        exact ⟨a, cap, by rw [HU.out, HV.out]; rfl, by rw [HU.out, HV.out]; exact h.below hb1, hb1⟩
    · have HU : Hid (optsK s 2 true vs = [fieldK 2 s]) := opts_no (.inr (.inl hE))
      go_enter Try.func12, Try.ntmps12
      go_wp2
      go_ret
      exact ⟨_, _, by rw [HU.out]; rfl, by rw [HU.out]; exact fresh2 _ _ (fieldK 2 s) (by simp), below_al hb1 _⟩

set_option maxHeartbeats 400000 in
theorem count_2 (s : Sl) (own : Bool) (a : Option Addr) (len cap : Nat) (vs : List Pr) (w : World) (hl : vs.length = len) (h : SliceOf w a len 2 (rowP vs)) :
    Calls Try.prog 14 #[.agg #[.string s.a.k, .string s.a.v, .string s.b.k, .string s.b.v, .string s.c.k, .string s.c.v], .int .i64 2, .bool own, .slice a len cap] w fun e w' => e = .returned (.int .i64 ((optsK s 2 own vs).length : Int)) ∧ Below w.heap.size w w' := by
  have hm := h.most
  unfold maxLen at hm
  have hb1 : Below w.heap.size w (w.alloc (.cells #[.string s.a.k, .string s.a.v, .string s.b.k, .string s.b.v, .string s.c.k, .string s.c.v] 23)) := below_al (Below.refl _ _) _
  have HV : Hid (vs.length = len) := hl
  clear hl
  cases own
  · have HU : Hid (optsK s 2 false vs = [fieldK 2 s]) := opts_no (.inl rfl)
    go_enter Try.func14, Try.ntmps14
    go_wp2
    go_ret
    exact ⟨by rw [HU.out]; rfl, hb1⟩
  · by_cases hE : s.c.v.toList = []
    · by_cases hZ : len = 0
      · have HU : Hid (optsK s 2 true vs = [fieldK 2 s]) := opts_no (.inr (.inr (HV.out.trans hZ)))
        have hz : (len : Int) ≤ 0 := by omega
        clear hZ
        go_enter Try.func14, Try.ntmps14
        go_wp2
        go_ret
        exact ⟨by rw [HU.out]; rfl, hb1⟩
      · have HU : Hid (optsK s 2 true vs = vs) := opts_use hE (by rw [HV.out]; exact hZ)
        have hz : (0 : Int) < (len : Int) := by omega
        clear hZ
        go_enter Try.func14, Try.ntmps14
        go_wp2
        go_ret
        exact ⟨by rw [HU.out, HV.out]; rfl, hb1⟩
    · have HU : Hid (optsK s 2 true vs = [fieldK 2 s]) := opts_no (.inr (.inl hE))
      go_enter Try.func14, Try.ntmps14
      go_wp2
      go_ret
      exact ⟨by rw [HU.out]; rfl, hb1⟩

end Go.Proofs.Qxb6604664a
