import Derived.Test.Qxb6604592aLeaf
import Derived.BigQuiet
import Derived.Deep.QuietTactic
namespace Go.Proofs.Qxb6604592a
open Go.RowKit Go.Maps

/-- It hands back a bool, whichever. -/
def RetBool (e : Ending) : Prop := ∃ r, e = .returned (.bool r)
/-- It hands back an int, whichever. -/
def RetInt (e : Ending) : Prop := ∃ r, e = .returned (.int .i64 r)

/-- One PutStep. -/
structure St where
  path : ByteArray
  name : ByteArray
  size : Int
  pl : Int
  files : Int

/-- The row of steps ss from cell off of block b on. -/
def StepsAt (w : World) (b off : Nat) (ss : List St) : Prop :=
  ∀ (i : Nat) (s : St), ss[i]? = some s → (w.cell? ⟨b, off + i * 5, none⟩ = some (.string s.path) ∧ w.cell? ⟨b, off + i * 5 + 1, none⟩ = some (.string s.name) ∧ w.cell? ⟨b, off + i * 5 + 2, none⟩ = some (.int .i64 s.size) ∧
    w.cell? ⟨b, off + i * 5 + 3, none⟩ = some (.int .i64 s.pl) ∧ w.cell? ⟨b, off + i * 5 + 4, none⟩ = some (.int .i64 s.files)) ∧ s.path.size ≤ maxLen ∧ s.name.size ≤ maxLen

set_option maxHeartbeats 400000 in
theorem bytes5_empty (a : Option Addr) (cap : Nat) (w : World) :
    Calls Try.prog 5 #[.slice a 0 cap] w fun e w' => RetBool e ∧ w' = w := by
  go_enter Try.func5, Try.ntmps5
  go_wp2
  go_loop [3, 4] (fun z i => z = .int .i64 0 ∧ i = .int .i64 0) (fun _ _ => 0)
  case atStart => exact ⟨rfl, rfl⟩
  case round =>
    obtain ⟨rfl, rfl⟩ := hrel
    go_wp2
    go_ret
    exact ⟨⟨_, rfl⟩, rfl⟩

set_option maxHeartbeats 400000 in
theorem bytes5_some (b off len cap : Nat) (ss : List St) (w : World) (hl : ss.length = len) (hS : StepsAt w b off ss) (hm : len ≤ maxLen) :
    Calls Try.prog 5 #[.slice (some ⟨b, off, none⟩) len cap] w fun e w' => RetBool e ∧ w' = w := by
  unfold maxLen at hm
  have HL : Hid (ss.length = len) := hl
  clear hl
  go_enter Try.func5, Try.ntmps5
  go_wp2
  · go_ret
    exact ⟨⟨_, rfl⟩, rfl⟩
  go_loop [3, 4] (fun z i => ∃ (k : Nat) (n : Int), k ≤ len ∧ 0 ≤ n ∧ n ≤ 1048576 ∧ i = .int .i64 k ∧ z = .int .i64 n) (fun _ i => len - (intOf i).toNat)
  case atStart => exact ⟨0, _, Nat.zero_le _, by omega, by omega, rfl, rfl⟩
  case round =>
    obtain ⟨k, n, hk, hn0, hn1, rfl, rfl⟩ := hrel
    by_cases hlt : k < len
    · have hk' : k < ss.length := by rw [HL.out]; exact hlt
      obtain ⟨s, hs⟩ : ∃ s, ss[k]? = some s := ⟨_, List.getElem?_eq_getElem hk'⟩
      obtain ⟨⟨c0, c1, -⟩, z0, z1⟩ := hS k s hs
      unfold maxLen at z0 z1
      clear hs hk' hS
      go_wp2
      case roundEnd =>
        go_round
        case rel => exact ⟨k + 1, _, by omega, by omega, by omega, by go_num, rfl⟩
        case measure => simp [intOf]; omega
      all_goals
        go_ret
        exact ⟨⟨_, rfl⟩, rfl⟩
    · go_wp2
      go_ret
      exact ⟨⟨_, rfl⟩, rfl⟩

set_option maxHeartbeats 400000 in
theorem putBytes_empty (a : Option Addr) (cap : Nat) (w : World) :
    Calls Try.prog 6 #[.slice a 0 cap] w fun e w' => RetInt e ∧ w' = w := by
  go_enter Try.func6, Try.ntmps6
  go_wp2
  go_loop [3, 4] (fun z i => z = .int .i64 0 ∧ i = .int .i64 0) (fun _ _ => 0)
  case atStart => exact ⟨rfl, rfl⟩
  case round =>
    obtain ⟨rfl, rfl⟩ := hrel
    go_wp2
    go_ret
    exact ⟨⟨_, rfl⟩, rfl⟩

set_option maxHeartbeats 400000 in
theorem putBytes_some (b off len cap : Nat) (ss : List St) (w : World) (hl : ss.length = len) (hS : StepsAt w b off ss) (hm : len ≤ maxLen) :
    Calls Try.prog 6 #[.slice (some ⟨b, off, none⟩) len cap] w fun e w' => RetInt e ∧ ∃ n, w' = w.drewN n := by
  unfold maxLen at hm
  have HL : Hid (ss.length = len) := hl
  clear hl
  go_enter Try.func6, Try.ntmps6
  go_wp2
  go_loopw [3, 4] (fun z i wr => ∃ (k : Nat) (n : Int) (q : Nat), k ≤ len ∧ i = .int .i64 k ∧ z = .int .i64 n ∧ wr = w.drewN q) (fun _ i _ => len - (intOf i).toNat)
  case atStart => exact ⟨0, _, 0, Nat.zero_le _, rfl, rfl, rfl⟩
  case round =>
    obtain ⟨k, n, q, hk, rfl, rfl, rfl⟩ := hrel
    by_cases hlt : k < len
    · have hk' : k < ss.length := by rw [HL.out]; exact hlt
      obtain ⟨s, hs⟩ : ∃ s, ss[k]? = some s := ⟨_, List.getElem?_eq_getElem hk'⟩
      obtain ⟨⟨c0, c1, -⟩, z0, z1⟩ := hS k s hs
      unfold maxLen at z0 z1
      clear hs hk' hS
      go_wp2
      go_quiet (fail)
      go_wp2
      case roundEnd =>
        go_roundw
        case rel => exact ⟨k + 1, _, _, by omega, by go_num, rfl, rfl⟩
        case measure => simp [intOf]; omega
      go_ret
      exact ⟨⟨_, rfl⟩, _, rfl⟩
    · go_wp2
      go_ret
      exact ⟨⟨_, rfl⟩, q, rfl⟩
set_option maxHeartbeats 400000 in
theorem bytes12_empty (a : Option Addr) (cap : Nat) (w : World) :
    Calls Try.prog 12 #[.slice a 0 cap] w fun e w' => RetBool e ∧ w' = w := by
  go_enter Try.func12, Try.ntmps12
  go_wp2
  go_loop [3, 4] (fun z i => z = .int .i64 0 ∧ i = .int .i64 0) (fun _ _ => 0)
  case atStart => exact ⟨rfl, rfl⟩
  case round =>
    obtain ⟨rfl, rfl⟩ := hrel
    go_wp2
    go_ret
    exact ⟨⟨_, rfl⟩, rfl⟩

set_option maxHeartbeats 400000 in
theorem bytes12_some (b off len cap : Nat) (ss : List St) (w : World) (hl : ss.length = len) (hS : StepsAt w b off ss) (hm : len ≤ maxLen) :
    Calls Try.prog 12 #[.slice (some ⟨b, off, none⟩) len cap] w fun e w' => RetBool e ∧ w' = w := by
  unfold maxLen at hm
  have HL : Hid (ss.length = len) := hl
  clear hl
  go_enter Try.func12, Try.ntmps12
  go_wp2
  · go_ret
    exact ⟨⟨_, rfl⟩, rfl⟩
  go_loop [3, 4] (fun z i => ∃ (k : Nat) (n : Int), k ≤ len ∧ 0 ≤ n ∧ n ≤ 1048576 ∧ i = .int .i64 k ∧ z = .int .i64 n) (fun _ i => len - (intOf i).toNat)
  case atStart => exact ⟨0, _, Nat.zero_le _, by omega, by omega, rfl, rfl⟩
  case round =>
    obtain ⟨k, n, hk, hn0, hn1, rfl, rfl⟩ := hrel
    by_cases hlt : k < len
    · have hk' : k < ss.length := by rw [HL.out]; exact hlt
      obtain ⟨s, hs⟩ : ∃ s, ss[k]? = some s := ⟨_, List.getElem?_eq_getElem hk'⟩
      obtain ⟨⟨c0, c1, -⟩, z0, z1⟩ := hS k s hs
      unfold maxLen at z0 z1
      clear hs hk' hS
      go_wp2
      case roundEnd =>
        go_round
        case rel => exact ⟨k + 1, _, by omega, by omega, by omega, by go_num, rfl⟩
        case measure => simp [intOf]; omega
      all_goals
        go_ret
        exact ⟨⟨_, rfl⟩, rfl⟩
    · go_wp2
      go_ret
      exact ⟨⟨_, rfl⟩, rfl⟩

end Go.Proofs.Qxb6604592a
