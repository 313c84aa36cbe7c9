import Derived.Test.Qxb6602650aHex
namespace Go.Proofs.Qxb6602650a
open Go.RowKit

/-- Does a number begin with c? -/
def isNum (c : Int) : Bool := decide (c = 45 ∨ (48 ≤ c ∧ c ≤ 57))
def KindPost (c : Int) (w : World) (e : Ending) (w' : World) : Prop := ∃ s : ByteArray, e = .returned (.string s) ∧ (s.toList == [110, 117, 109, 98, 101, 114]) = isNum c ∧ w' = w

set_option maxHeartbeats 400000 in
theorem kindOf_any (c : Int) (w : World) (h0 : 0 ≤ c) (h1 : c ≤ 255) : Calls Try.prog 21 #[.int .u8 c] w fun e w' => KindPost c w e w' := by
  by_cases a1 : c = 123
  · subst a1
    go_enter Try.func21, Try.ntmps21
    go_wp2
    go_ret
    exact ⟨_, rfl, by decide +kernel, rfl⟩
  by_cases a2 : c = 91
  · subst a2
    go_enter Try.func21, Try.ntmps21
    go_wp2
    go_ret
    exact ⟨_, rfl, by decide +kernel, rfl⟩
  by_cases a3 : c = 34
  · subst a3
    go_enter Try.func21, Try.ntmps21
    go_wp2
    go_ret
    exact ⟨_, rfl, by decide +kernel, rfl⟩
  by_cases a4 : c = 116
  · subst a4
    go_enter Try.func21, Try.ntmps21
    go_wp2
    go_ret
    exact ⟨_, rfl, by decide +kernel, rfl⟩
  by_cases a5 : c = 102
  · subst a5
    go_enter Try.func21, Try.ntmps21
    go_wp2
    go_ret
    exact ⟨_, rfl, by decide +kernel, rfl⟩
  by_cases a6 : c = 110
  · subst a6
    go_enter Try.func21, Try.ntmps21
    go_wp2
    go_ret
    exact ⟨_, rfl, by decide +kernel, rfl⟩
  by_cases a7 : c = 45
  · subst a7
    go_enter Try.func21, Try.ntmps21
    go_wp2
    go_ret
    exact ⟨_, rfl, by decide +kernel, rfl⟩
  have t1 : (c == 123) = false := by simpa using a1
  have t2 : (c == 91) = false := by simpa using a2
  have t3 : (c == 34) = false := by simpa using a3
  have t4 : (c == 116) = false := by simpa using a4
  have t5 : (c == 102) = false := by simpa using a5
  have t6 : (c == 110) = false := by simpa using a6
  have t7 : (c == 45) = false := by simpa using a7
  by_cases a8 : 48 ≤ c ∧ c ≤ 57
  · obtain ⟨b1, b2⟩ := a8
    have HB : Hid (isNum c = true) := decide_eq_true (.inr ⟨b1, b2⟩)
    clear a1 a2 a3 a4 a5 a6 a7
    go_enter Try.func21, Try.ntmps21
    go_wp2
    go_ret
    exact ⟨_, rfl, by rw [HB.out]; decide +kernel, rfl⟩
  · have HB : Hid (isNum c = false) := decide_eq_false (by omega)
    have HE : Hid (((ByteArray.mk #[]).toList == [110, 117, 109, 98, 101, 114]) = false) := (by decide +kernel : ((ByteArray.mk #[]).toList == [110, 117, 109, 98, 101, 114]) = false)
    clear a1 a2 a3 a4 a5 a6 a7
    go_enter Try.func21, Try.ntmps21
    go_wp2
    all_goals
      go_ret
      exact ⟨_, rfl, by rw [HB.out]; exact HE.out, rfl⟩

set_option maxHeartbeats 400000 in
theorem zzkind_any (c : Int) (w : World) (h0 : 0 ≤ c) (h1 : c ≤ 255) : Calls Try.prog 11 #[.int .u8 c] w fun e w' => KindPost c w e w' := by
  go_enter Try.func11, Try.ntmps11
  go_wp2_with fail
  refine (kindOf_any c w h0 h1).mono ?_
  rintro e w' ⟨s, rfl, hs, hw⟩
  rw [hw]
  have HS : Hid ((s.toList == [110, 117, 109, 98, 101, 114]) = isNum c) := hs
  clear hs hw
  go_wp2
  go_ret
  exact ⟨s, rfl, HS.out, rfl⟩

set_option maxHeartbeats 1000000 in
theorem kind_core (c v : Int) (ok num m : Bool) (w : World) (h0 : 0 ≤ c) (h1 : c ≤ 255) (hv : hexV c = v) (ho : hexOk c = ok) (hn : isNum c = num) (hm : (c == 45) = m)
    (law : (m = true ∧ ok = false ∧ num = true) ∨ (m = false ∧ ok = true ∧ v < 10 ∧ num = true) ∨ (m = false ∧ ok = true ∧ 10 ≤ v ∧ num = false) ∨ (m = false ∧ ok = false ∧ num = false)) :
    Calls Try.prog 3 #[.int .u8 c] w fun e w' => e = .returned (.bool true) ∧ w' = w := by
  have HZ := zzhex_any c w h0 h1
  rw [hv, ho] at HZ
  have HK := zzkind_any c w h0 h1
  unfold KindPost at HK
  rw [hn] at HK
  have HHZ : Hid (Calls Try.prog 10 #[.int .u8 c] w fun e w' => e = .returned (.tuple #[.int .i32 v, .bool ok]) ∧ w' = w) := HZ
  have HHK : Hid (Calls Try.prog 11 #[.int .u8 c] w fun e w' => ∃ s : ByteArray, e = .returned (.string s) ∧ (s.toList == [110, 117, 109, 98, 101, 114]) = num ∧ w' = w) := HK
  clear HZ HK hv ho hn
  rcases law with ⟨rfl, rfl, rfl⟩ | ⟨rfl, rfl, hlt, rfl⟩ | ⟨rfl, rfl, hge, rfl⟩ | ⟨rfl, rfl, rfl⟩
  all_goals
    go_enter Try.func3, Try.ntmps3
    go_wp2_with fail
    refine HHZ.out.mono ?_
    rintro e w' ⟨rfl, hw⟩
    rw [hw]
    clear hw
    go_wp2_with fail
    refine HHK.out.mono ?_
    rintro e w' ⟨s, rfl, hs, hw⟩
    rw [hw]
    clear hw
    go_wp2
    go_ret
    exact ⟨by first | (simp; done) | (simp; omega), rfl⟩

theorem kind_any (c : Int) (w : World) (h0 : 0 ≤ c) (h1 : c ≤ 255) :
    Calls Try.prog 3 #[.int .u8 c] w fun e w' => e = .returned (.bool true) ∧ w' = w := by
  refine kind_core c _ _ _ _ w h0 h1 rfl rfl rfl rfl ?_
  by_cases a : c = 45
  · subst a
    exact .inl ⟨by decide, by decide, by decide⟩
  have ha : (c == 45) = false := by simpa using a
  by_cases p1 : 48 ≤ c ∧ c ≤ 57
  · exact .inr (.inl ⟨ha, (hex_num c p1.1 p1.2).2, by rw [(hex_num c p1.1 p1.2).1]; omega, decide_eq_true (.inr p1)⟩)
  have hn : isNum c = false := decide_eq_false (by omega)
  by_cases p2 : 97 ≤ c ∧ c ≤ 102
  · exact .inr (.inr (.inl ⟨ha, (hex_low c p2.1 p2.2).2, by rw [(hex_low c p2.1 p2.2).1]; omega, hn⟩))
  by_cases p3 : 65 ≤ c ∧ c ≤ 70
  · exact .inr (.inr (.inl ⟨ha, (hex_up c p3.1 p3.2).2, by rw [(hex_up c p3.1 p3.2).1]; omega, hn⟩))
  · exact .inr (.inr (.inr ⟨ha, (hex_no c (by omega)).2, hn⟩))
end Go.Proofs.Qxb6602650a
