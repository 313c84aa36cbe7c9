import Derived.Test.Qxb6604664aBytes
namespace Go.Proofs.Qxb6604664a
open Go.RowKit

set_option maxRecDepth 20000 in
set_option maxHeartbeats 2000000 in
theorem bytes13_any (x0 x1 x2 x3 x4 x5 gs : ByteArray) (a1 a2 a3 : Option Addr) (l1 l2 l3 c1 c2 c3 : Nat) (ys1 ys2 ys3 : List Value) (w : World) (h1 : SliceOf w a1 l1 2 ys1) (s1 : Strs ys1) (h2 : SliceOf w a2 l2 2 ys2) (s2 : Strs ys2) (h3 : SliceOf w a3 l3 6 ys3) (s3 : Strs ys3) :
    Calls Try.prog 13 #[.agg #[.string x0, .string x1, .string x2, .string x3, .string x4, .string x5], .string gs, .slice a1 l1 c1, .slice a2 l2 c2, .slice a3 l3 c3] w fun e w' => RetBool e ∧ Below w.heap.size w w' := by
  have m1 := h1.most
  have m2 := h2.most
  have m3 := h3.most
  unfold maxLen at m1 m2 m3
  obtain ⟨w1, hw1⟩ : ∃ w1, w1 = w.alloc (.cells #[.string x0, .string x1, .string x2, .string x3, .string x4, .string x5] 23) := ⟨_, rfl⟩
  have hb : Below w.heap.size w w1 := by rw [hw1]; exact below_al (Below.refl _ _) _
  have hbox : ∀ j, j < 6 → ∃ s : ByteArray, w1.cell? ⟨w.heap.size, j, none⟩ = some (.string s) := by
    intro j hj
    rw [hw1]
    have h6 : j = 0 ∨ j = 1 ∨ j = 2 ∨ j = 3 ∨ j = 4 ∨ j = 5 := by omega
    rcases h6 with rfl | rfl | rfl | rfl | rfl | rfl <;> exact ⟨_, by simp [go_sem]; rfl⟩
  replace h1 := h1.below hb
  replace h2 := h2.below hb
  replace h3 := h3.below hb
  go_enter Try.func13, Try.ntmps13
  go_wp2
  rw [← hw1]
  clear hw1
  go_loop [11, 12] (fun z i => ∃ (k : Nat) (n : Int), k ≤ 3 ∧ i = .int .i64 k ∧ z = .int .i64 n) (fun _ i => 3 - (intOf i).toNat)
  case atStart => exact ⟨0, _, by omega, rfl, rfl⟩
  case round =>
    obtain ⟨k, n, hk, rfl, rfl⟩ := hrel
    by_cases hlt : k < 3
    · go_wp2
      go_loop [11, 13] (fun z i => ∃ (m : Nat) (n : Int), m ≤ 2 ∧ i = .int .i64 m ∧ z = .int .i64 n) (fun _ i => 2 - (intOf i).toNat)
      case atStart => exact ⟨0, _, by omega, rfl, rfl⟩
      case round =>
        obtain ⟨m, n, hm, rfl, rfl⟩ := hrel
        by_cases hmt : m < 2
        · obtain ⟨s0, d0⟩ := hbox (k * 2 + m) (by omega)
          go_wp2
          case roundEnd =>
            go_round
            case rel => exact ⟨m + 1, _, by omega, by go_num, rfl⟩
            case measure => simp [intOf]; omega
          all_goals
            go_ret
            exact ⟨⟨_, rfl⟩, hb⟩
        · go_wp2
          go_round
          case rel => exact ⟨k + 1, _, by omega, by go_num, rfl⟩
          case measure => simp [intOf]; omega
    · go_wp2
      iterate 4 (focus (go_ret; exact ⟨⟨_, rfl⟩, hb⟩))
      go_loop [11, 14] (fun z i => ∃ (k : Nat) (n : Int), k ≤ l1 ∧ i = .int .i64 k ∧ z = .int .i64 n) (fun _ i => l1 - (intOf i).toNat)
      case atStart => exact ⟨0, _, Nat.zero_le _, rfl, rfl⟩
      case round =>
        obtain ⟨k, n, hk, rfl, rfl⟩ := hrel
        by_cases hlt : k < l1
        · obtain ⟨b, off, rfl, hc⟩ := h1.str s1 (by omega)
          go_wp2
          go_loop [11, 15] (fun z i => ∃ (m : Nat) (n : Int), m ≤ 2 ∧ i = .int .i64 m ∧ z = .int .i64 n) (fun _ i => 2 - (intOf i).toNat)
          case atStart => exact ⟨0, _, by omega, rfl, rfl⟩
          case round =>
            obtain ⟨m, n, hm, rfl, rfl⟩ := hrel
            by_cases hmt : m < 2
            · obtain ⟨s0, d0⟩ := hc (k * 2 + m) (by omega)
              rw [← Nat.add_assoc] at d0
              go_wp2
              case roundEnd =>
                go_round
                case rel => exact ⟨m + 1, _, by omega, by go_num, rfl⟩
                case measure => simp [intOf]; omega
              all_goals
                go_ret
                exact ⟨⟨_, rfl⟩, hb⟩
            · go_wp2
              go_round
              case rel => exact ⟨k + 1, _, by omega, by go_num, rfl⟩
              case measure => simp [intOf]; omega
        · go_wp2
          iterate 2 (focus (go_ret; exact ⟨⟨_, rfl⟩, hb⟩))
          go_loop [11, 16] (fun z i => ∃ (k : Nat) (n : Int), k ≤ l2 ∧ i = .int .i64 k ∧ z = .int .i64 n) (fun _ i => l2 - (intOf i).toNat)
          case atStart => exact ⟨0, _, Nat.zero_le _, rfl, rfl⟩
          case round =>
            obtain ⟨k, n, hk, rfl, rfl⟩ := hrel
            by_cases hlt : k < l2
            · obtain ⟨b, off, rfl, hc⟩ := h2.str s2 (by omega)
              go_wp2
              go_loop [11, 17] (fun z i => ∃ (m : Nat) (n : Int), m ≤ 2 ∧ i = .int .i64 m ∧ z = .int .i64 n) (fun _ i => 2 - (intOf i).toNat)
              case atStart => exact ⟨0, _, by omega, rfl, rfl⟩
              case round =>
                obtain ⟨m, n, hm, rfl, rfl⟩ := hrel
                by_cases hmt : m < 2
                · obtain ⟨s0, d0⟩ := hc (k * 2 + m) (by omega)
                  rw [← Nat.add_assoc] at d0
                  go_wp2
                  case roundEnd =>
                    go_round
                    case rel => exact ⟨m + 1, _, by omega, by go_num, rfl⟩
                    case measure => simp [intOf]; omega
                  all_goals
                    go_ret
                    exact ⟨⟨_, rfl⟩, hb⟩
                · go_wp2
                  go_round
                  case rel => exact ⟨k + 1, _, by omega, by go_num, rfl⟩
                  case measure => simp [intOf]; omega
            · go_wp2
              iterate 2 (focus (go_ret; exact ⟨⟨_, rfl⟩, hb⟩))
              go_loop [11, 18] (fun z i => ∃ (k : Nat) (n : Int), k ≤ l3 ∧ i = .int .i64 k ∧ z = .int .i64 n) (fun _ i => l3 - (intOf i).toNat)
              case atStart => exact ⟨0, _, Nat.zero_le _, rfl, rfl⟩
              case round =>
                obtain ⟨k, n, hk, rfl, rfl⟩ := hrel
                by_cases hlt : k < l3
                · obtain ⟨b, off, rfl, hc⟩ := h3.str s3 (by omega)
                  go_wp2
                  go_loop [11, 19] (fun z i => ∃ (m : Nat) (n : Int), m ≤ 3 ∧ i = .int .i64 m ∧ z = .int .i64 n) (fun _ i => 3 - (intOf i).toNat)
                  case atStart => exact ⟨0, _, by omega, rfl, rfl⟩
                  case round =>
                    obtain ⟨m, n, hm, rfl, rfl⟩ := hrel
                    by_cases hmt : m < 3
                    · go_wp2
                      go_loop [11, 20] (fun z i => ∃ (j : Nat) (n : Int), j ≤ 2 ∧ i = .int .i64 j ∧ z = .int .i64 n) (fun _ i => 2 - (intOf i).toNat)
                      case atStart => exact ⟨0, _, by omega, rfl, rfl⟩
                      case round =>
                        obtain ⟨j, n, hj, rfl, rfl⟩ := hrel
                        by_cases hjt : j < 2
                        · obtain ⟨s0, d0⟩ := hc (k * 6 + m * 2 + j) (by omega)
                          rw [← Nat.add_assoc, ← Nat.add_assoc] at d0
                          go_wp2
                          case roundEnd =>
                            go_round
                            case rel => exact ⟨j + 1, _, by omega, by go_num, rfl⟩
                            case measure => simp [intOf]; omega
                          all_goals
                            go_ret
                            exact ⟨⟨_, rfl⟩, hb⟩
                        · go_wp2
                          go_round
                          case rel => exact ⟨m + 1, _, by omega, by go_num, rfl⟩
                          case measure => simp [intOf]; omega
                    · go_wp2
                      go_round
                      case rel => exact ⟨k + 1, _, by omega, by go_num, rfl⟩
                      case measure => simp [intOf]; omega
                · go_wp2
                  go_ret
                  exact ⟨⟨_, rfl⟩, hb⟩

set_option maxHeartbeats 400000 in
theorem selectorsBytes_any (a : Option Addr) (len cap : Nat) (xs : List Value) (w : World) (h : SliceOf w a len 6 xs) (hx : Strs xs) :
    Calls Try.prog 8 #[.slice a len cap] w fun e w' => RetInt e ∧ Below w.heap.size w w' := by
  have hm := h.most
  unfold maxLen at hm
  go_enter Try.func8, Try.ntmps8
  go_wp2
  go_loopw [3, 4] (fun z i wr => ∃ (k : Nat) (n : Int), k ≤ len ∧ i = .int .i64 k ∧ z = .int .i64 n ∧ Below w.heap.size w wr) (fun _ i _ => len - (intOf i).toNat)
  case atStart => exact ⟨0, _, Nat.zero_le _, rfl, rfl, Below.refl _ _⟩
  case round =>
    obtain ⟨k, n, hk, rfl, rfl, hb⟩ := hrel
    by_cases hlt : k < len
    · obtain ⟨b, off, rfl, hc⟩ := h.str hx (by omega)
      have hcell : ∀ j, j < len * 6 → ∃ s : ByteArray, wr.cell? ⟨b, off + j, none⟩ = some (.string s) := fun j hj => by
        obtain ⟨s, hs⟩ := hc j hj
        exact ⟨s, (hb.cell (p := ⟨b, off + j, none⟩) (World.block_lt_of_cell? _ _ hs)).trans hs⟩
      obtain ⟨s0, d0⟩ := hcell (k * 6) (by omega)
      obtain ⟨s1, d1⟩ := hcell (k * 6 + 1) (by omega)
      obtain ⟨s2, d2⟩ := hcell (k * 6 + 2) (by omega)
      obtain ⟨s3, d3⟩ := hcell (k * 6 + 3) (by omega)
      obtain ⟨s4, d4⟩ := hcell (k * 6 + 4) (by omega)
      obtain ⟨s5, d5⟩ := hcell (k * 6 + 5) (by omega)
      rw [← Nat.add_assoc] at d1 d2 d3 d4 d5
      clear hc hcell
      go_wp2_with fail
      refine (selectorBytes_any s0 s1 s2 s3 s4 s5 _).mono ?_
      rintro e w' ⟨⟨r, rfl⟩, rfl⟩
      go_wp2
      go_roundw
      case rel => exact ⟨k + 1, _, by omega, by go_num, rfl, below_al hb _⟩
      case measure => simp [intOf]; omega
    · go_wp2
      go_ret
      exact ⟨⟨_, rfl⟩, hb⟩
end Go.Proofs.Qxb6604664a
