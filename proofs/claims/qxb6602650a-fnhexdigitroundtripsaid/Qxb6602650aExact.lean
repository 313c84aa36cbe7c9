import Derived.Test.Qxb6602650aHex
namespace Go.Proofs.Qxb6602650a
open Go.RowKit

/-- The two alphabets. -/
abbrev lowB : ByteArray := { data := #[48, 49, 50, 51, 52, 53, 54, 55, 56, 57, 97, 98, 99, 100, 101, 102] }
abbrev upB : ByteArray := { data := #[48, 49, 50, 51, 52, 53, 54, 55, 56, 57, 65, 66, 67, 68, 69, 70] }
def low (k : Nat) : Int := if h : k < lowB.size then (lowB[k].toNat : Int) else -1
def up (k : Nat) : Int := if h : k < upB.size then (upB[k].toNat : Int) else -1
/-- What the law's loop has found after k places. -/
def want (c : Int) : Nat → Int × Bool
  | 0 => (0, false)
  | k + 1 => if low k = c ∨ up k = c then ((k : Int), true) else want c k
theorem want_hit {c : Int} {k : Nat} (hk : k < 16) (h : ((lowB[k]'hk).toNat : Int) = c ∨ ((upB[k]'hk).toNat : Int) = c) : want c (k + 1) = ((k : Int), true) := by
  simp only [want]
  rw [if_pos]
  rcases h with h | h
  · exact .inl (by unfold low; rw [dif_pos (show k < lowB.size from hk)]; exact h)
  · exact .inr (by unfold up; rw [dif_pos (show k < upB.size from hk)]; exact h)
theorem want_miss {c : Int} {k : Nat} (hk : k < 16) (h1 : ¬ ((lowB[k]'hk).toNat : Int) = c) (h2 : ¬ ((upB[k]'hk).toNat : Int) = c) : want c (k + 1) = want c k := by
  simp only [want]
  rw [if_neg]
  intro h
  rcases h with h | h
  · exact h1 (by unfold low at h; rw [dif_pos (show k < lowB.size from hk)] at h; exact h)
  · exact h2 (by unfold up at h; rw [dif_pos (show k < upB.size from hk)] at h; exact h)
theorem want_all : ∀ n : Fin 256, want ((n : Nat) : Int) 16 = (hexV ((n : Nat) : Int), hexOk ((n : Nat) : Int)) := by decide +kernel

set_option maxHeartbeats 1000000 in
theorem exact_any (c : Int) (w : World) (h0 : 0 ≤ c) (h1 : c ≤ 255) :
    Calls Try.prog 4 #[.int .u8 c] w fun e w' => e = .returned (.bool true) ∧ w' = w := by
  have HA : Hid (want c 16 = (hexV c, hexOk c)) := by
    have := want_all ⟨c.toNat, by omega⟩
    simp only [Int.toNat_of_nonneg h0] at this
    exact this
  go_enter Try.func4, Try.ntmps4
  go_wp2_with fail
  refine (zzhex_any c w h0 h1).mono ?_
  rintro e w' ⟨rfl, hw⟩
  rw [hw]
  clear hw
  go_wp2
  go_loop [5, 6, 7] (fun v ok i => ∃ (k : Nat) (x : Int) (b : Bool), k ≤ 16 ∧ i = .int .i64 k ∧ v = .int .i32 x ∧ ok = .bool b ∧ Hid (want c k = (x, b))) (fun _ _ i => 16 - (intOf i).toNat)
  case atStart => exact ⟨0, 0, false, by omega, rfl, rfl, rfl, rfl⟩
  case round =>
    obtain ⟨k, x, b, hk, rfl, rfl, rfl, HW⟩ := hrel
    by_cases hlt : k < 16
    · by_cases e1 : ((lowB[k]'hlt).toNat : Int) = c
      · have HN : Hid (want c (k + 1) = ((k : Int), true)) := want_hit hlt (.inl e1)
        have t1 : ((((lowB[k]'hlt).toNat : Int)) == c) = true := by simpa using e1
        clear e1
        go_wp2
        go_round
        case rel => exact ⟨k + 1, _, _, by omega, by go_num, rfl, rfl, HN⟩
        case measure => simp [intOf]; omega
      · have t1 : ((((lowB[k]'hlt).toNat : Int)) == c) = false := by simpa using e1
        by_cases e2 : ((upB[k]'hlt).toNat : Int) = c
        · have HN : Hid (want c (k + 1) = ((k : Int), true)) := want_hit hlt (.inr e2)
          have t2 : ((((upB[k]'hlt).toNat : Int)) == c) = true := by simpa using e2
          clear e1 e2
          go_wp2
          go_round
          case rel => exact ⟨k + 1, _, _, by omega, by go_num, rfl, rfl, HN⟩
          case measure => simp [intOf]; omega
        · have HN : Hid (want c (k + 1) = (x, b)) := (want_miss hlt e1 e2).trans HW.out
          have t2 : ((((upB[k]'hlt).toNat : Int)) == c) = false := by simpa using e2
          clear e1 e2
          go_wp2
          go_round
          case rel => exact ⟨k + 1, _, _, by omega, by go_num, rfl, rfl, HN⟩
          case measure => simp [intOf]; omega
    · obtain rfl : k = 16 := by omega
      have he := HW.out.symm.trans HA.out
      simp only [Prod.mk.injEq] at he
      obtain ⟨rfl, rfl⟩ := he
      go_wp2
      go_ret
      exact ⟨by simp, rfl⟩
end Go.Proofs.Qxb6602650a
