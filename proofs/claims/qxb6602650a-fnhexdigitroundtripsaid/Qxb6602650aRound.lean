import Derived.Test.Qxb6602650aExact
namespace Go.Proofs.Qxb6602650a
open Go.RowKit

theorem low_all : ∀ k : Fin 16, hexV ((lowB[(k : Nat)]'k.2).toNat : Int) = (k : Nat) ∧ hexOk ((lowB[(k : Nat)]'k.2).toNat : Int) = true := by decide +kernel
theorem up_all : ∀ k : Fin 16, hexV ((upB[(k : Nat)]'k.2).toNat : Int) = (k : Nat) ∧ hexOk ((upB[(k : Nat)]'k.2).toNat : Int) = true := by decide +kernel

set_option maxHeartbeats 1000000 in
theorem round_small (k : Nat) (hk : k < 16) (w : World) :
    Calls Try.prog 6 #[.int .u8 (k : Int)] w fun e w' => e = .returned (.bool true) ∧ w' = w := by
  obtain ⟨L, hL⟩ : ∃ L : Int, ((lowB[k]'hk).toNat : Int) = L := ⟨_, rfl⟩
  obtain ⟨U, hU⟩ : ∃ U : Int, ((upB[k]'hk).toNat : Int) = U := ⟨_, rfl⟩
  have hLk := low_all ⟨k, hk⟩
  have hUk := up_all ⟨k, hk⟩
  simp only [] at hLk hUk
  rw [hL] at hLk
  rw [hU] at hUk
  have hl1 : L ≤ 255 := by rw [← hL]; have := (lowB[k]'hk).toNat_lt; omega
  have hl0 : 0 ≤ L := by omega
  have hu1 : U ≤ 255 := by rw [← hU]; have := (upB[k]'hk).toNat_lt; omega
  have hu0 : 0 ≤ U := by omega
  have CL := zzhex_any L w hl0 hl1
  have CU := zzhex_any U w hu0 hu1
  rw [hLk.1, hLk.2] at CL
  rw [hUk.1, hUk.2] at CU
  have HCL : Hid (Calls Try.prog 10 #[.int .u8 L] w fun e w' => e = .returned (.tuple #[.int .i32 ((k : Nat) : Int), .bool true]) ∧ w' = w) := CL
  have HCU : Hid (Calls Try.prog 10 #[.int .u8 U] w fun e w' => e = .returned (.tuple #[.int .i32 ((k : Nat) : Int), .bool true]) ∧ w' = w) := CU
  clear CL CU hLk hUk
  go_enter Try.func6, Try.ntmps6
  go_wp2_with fail
  refine HCL.out.mono ?_
  rintro e w' ⟨rfl, hw⟩
  rw [hw]
  clear hw
  go_wp2_with fail
  refine HCU.out.mono ?_
  rintro e w' ⟨rfl, hw⟩
  rw [hw]
  clear hw
  go_wp2
  go_ret
  exact ⟨by simp, rfl⟩

set_option maxHeartbeats 400000 in
theorem round_any (c : Int) (w : World) (h0 : 0 ≤ c) (h1 : c ≤ 255) :
    Calls Try.prog 6 #[.int .u8 c] w fun e w' => e = .returned (.bool true) ∧ w' = w := by
  by_cases h : 15 < c
  · go_enter Try.func6, Try.ntmps6
    go_wp2
    go_ret
    exact ⟨rfl, rfl⟩
  · have e : c = ((c.toNat : Nat) : Int) := (Int.toNat_of_nonneg h0).symm
    rw [e]
    exact round_small c.toNat (by omega) w
end Go.Proofs.Qxb6602650a
