import Derived.Test.Qxb6602650aSpaceB
namespace Go.Proofs.Qxb6602650a
open Go.RowKit

theorem clone_any (a : Option Addr) (len cap : Nat) (xs : List Int) (w : World) (h : BytesOf w a len xs) (hn : a = none → len = 0 ∧ cap = 0) (hm : len ≤ 1048576) :
    Calls Try.prog 15 #[.slice a len cap] w fun e w' => ClonePost len xs w e w' := by
  cases a with
  | none =>
    obtain ⟨rfl, rfl⟩ := hn rfl
    obtain rfl : xs = [] := List.length_eq_zero_iff.1 h.len_eq
    exact clone_nil w
  | some ad => exact clone_some ad len cap _ xs w rfl h hm

set_option maxHeartbeats 2000000 in
theorem space_main (a : Option Addr) (len cap n0 : Nat) (xs : List Int) (w : World) (h : BytesOf w a len xs) (hn : a = none → len = 0 ∧ cap = 0) (hm : len ≤ 1048576) :
    Calls Try.prog 7 #[.slice a len cap, .int .i64 (n0 : Int)] w fun e w' => e = .returned (.bool true) ∧ Below w.heap.size w w' := by
  have HZ : Hid (Calls Try.prog 14 #[.slice a len cap, .int .i64 (n0 : Int)] w fun e w' => RetB e ∧ w' = w) := zzBytes_any a len cap n0 w (by unfold maxLen; omega)
  have HC : Hid (Calls Try.prog 15 #[.slice a len cap] w fun e w' => ClonePost len xs w e w') := clone_any a len cap xs w h hn hm
  clear h hn
  go_enter Try.func7, Try.ntmps7
  go_wp2_with fail
  refine HZ.out.mono ?_
  rintro e w' ⟨⟨r, rfl⟩, hw⟩
  rw [hw]
  clear hw HZ
  cases r with
  | false =>
    go_wp2
    go_ret
    exact ⟨rfl, Below.refl _ _⟩
  | true =>
    go_wp2_with fail
    refine HC.out.mono ?_
    rintro e w1 ⟨a', cap', rfl, hby, hb1⟩
    have HK : Hid (Calls Try.prog 16 #[.slice a' len cap', .int .i64 (n0 : Int)] w1 fun e w' => ZzPost xs n0 w1 e w') := zzskip_any a' len cap' n0 xs w1 hby hm
    have HY : Hid (BytesOf w1 a' len xs) := hby
    have HB1 : Hid (Below w.heap.size w w1) := hb1
    clear hby hb1 HC
    go_wp2_with fail
    refine HK.out.mono ?_
    rintro e w2 ⟨j, rfl, hst, hb2⟩
    have HB : Hid (Below w.heap.size w w2) := HB1.out.trans (hb2.mono HB1.out.size)
    have HY2 : Hid (BytesOf w2 a' len xs) := HY.out.below hb2
    have HS : Hid (Stopped xs n0 j) := hst
    clear HK HY HB1 hb2 hst
    by_cases far : len ≤ n0
    · obtain rfl : j = n0 := by
        have := HS.out.ge
        have := HS.out.le
        have := HY2.out.len_eq
        omega
      go_wp2
      go_ret
      exact ⟨rfl, HB.out⟩
    · have g1 := HS.out.ge
      have g2 : j ≤ len := by
        have := HS.out.le
        have := HY2.out.len_eq
        omega
      obtain ⟨b, off, rfl, hc⟩ := HY2.out.cells (by omega)
      have HL : Hid (xs.length = len) := HY2.out.len_eq
      have HX : Hid (∀ j v, xs[j]? = some v → w2.cell? ⟨b, off + j, none⟩ = some (.int .u8 v)) := hc
      clear hc HY2
      go_wp2
      have d1 : decide (j < n0) = false := decide_eq_false (by omega)
      have d2 : decide (len < j) = false := decide_eq_false (by omega)
      simp only [d1, d2, Bool.or_self]
      clear d1 d2
      go_loop [6] (fun i => ∃ k : Nat, n0 ≤ k ∧ k ≤ j ∧ i = .int .i64 k) (fun i => j - (intOf i).toNat)
      case atStart => exact ⟨n0, Nat.le_refl _, g1, rfl⟩
      case round =>
        obtain ⟨k, k0, k1, rfl⟩ := hrel
        by_cases hlt : k < j
        · obtain ⟨c, ec⟩ : ∃ u, xs[k]? = some u := ⟨_, List.getElem?_eq_getElem (by have := HL.out; omega)⟩
          have c0 := HX.out _ _ ec
          have HP := isSpace_any c w2
          rw [HS.out.sp k c k0 hlt ec] at HP
          have HPP : Hid (Calls Try.prog 17 #[.int .u8 c] w2 fun e w' => e = .returned (.bool true) ∧ w' = w2) := HP
          clear HP ec
          have i0 : (0 : Int) ≤ (k : Int) := by omega
          have i1 : (k : Int) < (len : Int) := by omega
          go_wp2_with fail
          refine HPP.out.mono ?_
          rintro e w' ⟨rfl, hw⟩
          rw [hw]
          clear hw
          go_wp2
          go_round
          case rel => exact ⟨k + 1, by omega, by omega, by go_num⟩
          case measure => simp [intOf]; omega
        · obtain rfl : k = j := by omega
          by_cases he : k = len
          · subst he
            go_wp2
            go_ret
            exact ⟨rfl, HB.out⟩
          · obtain ⟨c, ec⟩ : ∃ u, xs[k]? = some u := ⟨_, List.getElem?_eq_getElem (by have := HL.out; omega)⟩
            have c0 := HX.out _ _ ec
            have HP := isSpace_any c w2
            rw [HS.out.stop c ec] at HP
            have HPP : Hid (Calls Try.prog 17 #[.int .u8 c] w2 fun e w' => e = .returned (.bool false) ∧ w' = w2) := HP
            clear HP ec
            have i0 : (0 : Int) ≤ (k : Int) := by omega
            have i1 : (k : Int) < (len : Int) := by omega
            go_wp2_with fail
            refine HPP.out.mono ?_
            rintro e w' ⟨rfl, hw⟩
            rw [hw]
            clear hw
            go_wp2
            go_ret
            exact ⟨rfl, HB.out⟩

set_option maxHeartbeats 400000 in
theorem space_long (a : Option Addr) (len cap : Nat) (a1 : Int) (w : World) (hm : len ≤ maxLen) (hl : 1048576 < len) :
    Calls Try.prog 7 #[.slice a len cap, .int .i64 a1] w fun e w' => e = .returned (.bool true) ∧ Below w.heap.size w w' := by
  have HZ : Hid (Calls Try.prog 14 #[.slice a len cap, .int .i64 a1] w fun e w' => RetB e ∧ w' = w) := zzBytes_any a len cap a1 w hm
  clear hm
  go_enter Try.func7, Try.ntmps7
  go_wp2_with fail
  refine HZ.out.mono ?_
  rintro e w' ⟨⟨r, rfl⟩, hw⟩
  rw [hw]
  clear hw HZ
  cases r
  all_goals
    go_wp2
    go_ret
    exact ⟨rfl, Below.refl _ _⟩

set_option maxHeartbeats 400000 in
theorem space_neg (a : Option Addr) (len cap : Nat) (a1 : Int) (w : World) (hl : len ≤ 1048576) (hn : a1 < 0) :
    Calls Try.prog 7 #[.slice a len cap, .int .i64 a1] w fun e w' => e = .returned (.bool true) ∧ Below w.heap.size w w' := by
  have HZ : Hid (Calls Try.prog 14 #[.slice a len cap, .int .i64 a1] w fun e w' => RetB e ∧ w' = w) := zzBytes_any a len cap a1 w (by unfold maxLen; omega)
  go_enter Try.func7, Try.ntmps7
  go_wp2_with fail
  refine HZ.out.mono ?_
  rintro e w' ⟨⟨r, rfl⟩, hw⟩
  rw [hw]
  clear hw HZ
  cases r
  all_goals
    go_wp2
    go_ret
    exact ⟨rfl, Below.refl _ _⟩

theorem space_any (a : Option Addr) (len cap : Nat) (a1 : Int) (xs : List Int) (w : World) (h : BytesOf w a len xs) (hn : a = none → len = 0 ∧ cap = 0) (hm : len ≤ maxLen) :
    Calls Try.prog 7 #[.slice a len cap, .int .i64 a1] w fun e w' => e = .returned (.bool true) ∧ Below w.heap.size w w' := by
  by_cases hl : 1048576 < len
  · exact space_long a len cap a1 w hm hl
  · by_cases h1 : a1 < 0
    · exact space_neg a len cap a1 w (by omega) h1
    · obtain ⟨n0, rfl⟩ := Int.eq_ofNat_of_zero_le (by omega : 0 ≤ a1)
      exact space_main a len cap n0 xs w h hn (by omega)
end Go.Proofs.Qxb6602650a
