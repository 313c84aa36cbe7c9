import Derived.Test.Qxb6602650aRows
import Derived.WalkKit
import Derived.WalkSpells
import Derived.WalkLawsBesides
namespace Go.Proofs.Qxb6602650a
open Go.RowKit

/-! ### What hexDigit answers -/
def hexV (c : Int) : Int := if 48 ≤ c ∧ c ≤ 57 then c - 48 else if 97 ≤ c ∧ c ≤ 102 then c - 87 else if 65 ≤ c ∧ c ≤ 70 then c - 55 else 0
def hexOk (c : Int) : Bool := decide ((48 ≤ c ∧ c ≤ 57) ∨ (97 ≤ c ∧ c ≤ 102) ∨ (65 ≤ c ∧ c ≤ 70))

theorem ret2 {a b : Int} {p q : Bool} (h1 : a = b) (h2 : p = q) : Ending.returned (.tuple #[.int .i32 a, .bool p]) = .returned (.tuple #[.int .i32 b, .bool q]) := by rw [h1, h2]

theorem hex_num (c : Int) (a : 48 ≤ c) (b : c ≤ 57) : hexV c = c - 48 ∧ hexOk c = true := by
  unfold hexV hexOk
  exact ⟨if_pos ⟨a, b⟩, decide_eq_true (.inl ⟨a, b⟩)⟩
theorem hex_low (c : Int) (a : 97 ≤ c) (b : c ≤ 102) : hexV c = c - 97 + 10 ∧ hexOk c = true := by
  unfold hexV hexOk
  exact ⟨by rw [if_neg (by omega), if_pos ⟨a, b⟩]; omega, decide_eq_true (.inr (.inl ⟨a, b⟩))⟩
theorem hex_up (c : Int) (a : 65 ≤ c) (b : c ≤ 70) : hexV c = c - 65 + 10 ∧ hexOk c = true := by
  unfold hexV hexOk
  exact ⟨by rw [if_neg (by omega), if_neg (by omega), if_pos ⟨a, b⟩]; omega, decide_eq_true (.inr (.inr ⟨a, b⟩))⟩
theorem hex_no (c : Int) (h : ¬ ((48 ≤ c ∧ c ≤ 57) ∨ (97 ≤ c ∧ c ≤ 102) ∨ (65 ≤ c ∧ c ≤ 70))) : hexV c = 0 ∧ hexOk c = false := by
  unfold hexV hexOk
  exact ⟨by rw [if_neg (by omega), if_neg (by omega), if_neg (by omega)], decide_eq_false h⟩

set_option maxHeartbeats 400000 in
theorem hexDigit_any (c : Int) (w : World) (h0 : 0 ≤ c) (h1 : c ≤ 255) :
    Calls Try.prog 20 #[.int .u8 c] w fun e w' => e = .returned (.tuple #[.int .i32 (hexV c), .bool (hexOk c)]) ∧ w' = w := by
  by_cases p1 : 48 ≤ c ∧ c ≤ 57
  · obtain ⟨p1, p2⟩ := p1
    have H : Hid (hexV c = c - 48 ∧ hexOk c = true) := hex_num c p1 p2
    go_enter Try.func20, Try.ntmps20
    go_wp2
    go_ret2
    exact ⟨ret2 H.out.1.symm H.out.2.symm, rfl⟩
  by_cases p2 : 97 ≤ c ∧ c ≤ 102
  · obtain ⟨p2, p3⟩ := p2
    have H : Hid (hexV c = c - 97 + 10 ∧ hexOk c = true) := hex_low c p2 p3
    have q : ¬ c ≤ 57 := by omega
    clear p1
    go_enter Try.func20, Try.ntmps20
    go_wp2
    go_ret2
    exact ⟨ret2 H.out.1.symm H.out.2.symm, rfl⟩
  by_cases p3 : 65 ≤ c ∧ c ≤ 70
  · obtain ⟨p3, p4⟩ := p3
    have H : Hid (hexV c = c - 65 + 10 ∧ hexOk c = true) := hex_up c p3 p4
    have q : ¬ c ≤ 57 := by omega
    have q2 : ¬ 97 ≤ c := by omega
    clear p1 p2
    go_enter Try.func20, Try.ntmps20
    go_wp2
    go_ret2
    exact ⟨ret2 H.out.1.symm H.out.2.symm, rfl⟩
  have H : Hid (hexV c = 0 ∧ hexOk c = false) := hex_no c (by omega)
  go_enter Try.func20, Try.ntmps20
  go_wp2
  all_goals
    go_ret2
    exact ⟨ret2 H.out.1.symm H.out.2.symm, rfl⟩

set_option maxHeartbeats 400000 in
theorem zzhex_any (c : Int) (w : World) (h0 : 0 ≤ c) (h1 : c ≤ 255) :
    Calls Try.prog 10 #[.int .u8 c] w fun e w' => e = .returned (.tuple #[.int .i32 (hexV c), .bool (hexOk c)]) ∧ w' = w := by
  go_enter Try.func10, Try.ntmps10
  go_wp2_with fail
  refine (hexDigit_any c _ h0 h1).mono ?_
  rintro e w' ⟨rfl, rfl⟩
  go_wp2
  go_ret2
  exact ⟨rfl, rfl⟩
end Go.Proofs.Qxb6602650a
