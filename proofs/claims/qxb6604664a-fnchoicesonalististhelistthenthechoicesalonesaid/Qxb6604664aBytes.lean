import Derived.Test.Qxb6604664aBase
namespace Go.Proofs.Qxb6604664a
open Go.RowKit

theorem SliceOf.str {w : World} {a : Option Addr} {len sz : Nat} {xs : List Value} (h : SliceOf w a len sz xs) (hx : Strs xs) (hp : 0 < len) : ∃ b off, a = some ⟨b, off, none⟩ ∧ ∀ j, j < len * sz → ∃ s : ByteArray, w.cell? ⟨b, off + j, none⟩ = some (.string s) := by
  obtain ⟨b, off, e, hc⟩ := h.cells hp
  refine ⟨b, off, e, fun j hj => ?_⟩
  obtain ⟨u, hu⟩ : ∃ u, xs[j]? = some u := ⟨_, List.getElem?_eq_getElem (by rw [h.len_eq]; exact hj)⟩
  obtain ⟨s, rfl⟩ := hx _ (List.mem_of_getElem? hu)
  exact ⟨s, hc j _ hu⟩

set_option maxRecDepth 20000 in
set_option maxHeartbeats 2000000 in
theorem bytes5_any (x0 x1 x2 x3 x4 x5 gs : ByteArray) (a1 a2 a3 : Option Addr) (l1 l2 l3 c1 c2 c3 : Nat) (ys1 ys2 ys3 : List Value) (w : World) (h1 : SliceOf w a1 l1 2 ys1) (s1 : Strs ys1) (h2 : SliceOf w a2 l2 2 ys2) (s2 : Strs ys2) (h3 : SliceOf w a3 l3 6 ys3) (s3 : Strs ys3) :
    Calls Try.prog 5 #[.agg #[.string x0, .string x1, .string x2, .string x3, .string x4, .string x5], .string gs, .slice a1 l1 c1, .slice a2 l2 c2, .slice a3 l3 c3] w fun e w' => RetBool e ∧ Below w.heap.size w w' := by
  have m1 := h1.most
  have m2 := h2.most
  have m3 := h3.most
  unfold maxLen at m1 m2 m3
  obtain ⟨w1, hw1⟩ : ∃ w1, w1 = w.alloc (.cells #[.string x0, .string x1, .string x2, .string x3, .string x4, .string x5] 23) := ⟨_, rfl⟩
  have hb : Below w.heap.size w w1 := by rw [hw1]; exact below_al (Below.refl _ _) _
  have hbox : ∀ j, j < 6 → ∃ s : ByteArray, w1.cell? ⟨w.heap.size, j, none⟩ = some (.string s) := by
    intro j hj
    rw [hw1]
    have h6 : j = 0 ∨ j = 1 ∨ j = 2 ∨ j = 3 ∨ j = 4 ∨ j = 5 := by omega
    rcases h6 with rfl | rfl | rfl | rfl | rfl | rfl <;> exact ⟨_, by simp [go_sem]; rfl⟩
  replace h1 := h1.below hb
  replace h2 := h2.below hb
  replace h3 := h3.below hb
  go_enter Try.func5, Try.ntmps5
  go_wp2
  rw [← hw1]
  clear hw1
  go_loop [11, 12] (fun z i => ∃ (k : Nat) (n : Int), k ≤ 3 ∧ i = .int .i64 k ∧ z = .int .i64 n) (fun _ i => 3 - (intOf i).toNat)
  case atStart => exact ⟨0, _, by omega, rfl, rfl⟩
  case round =>
    obtain ⟨k, n, hk, rfl, rfl⟩ := hrel
    by_cases hlt : k < 3
    · go_wp2
      go_loop [11, 13] (fun z i => ∃ (m : Nat) (n : Int), m ≤ 2 ∧ i = .int .i64 m ∧ z = .int .i64 n) (fun _ i => 2 - (intOf i).toNat)
      case atStart => exact ⟨0, _, by omega, rfl, rfl⟩
      case round =>
        obtain ⟨m, n, hm, rfl, rfl⟩ := hrel
        by_cases hmt : m < 2
        · obtain ⟨s0, d0⟩ := hbox (k * 2 + m) (by omega)
          go_wp2
          case roundEnd =>
            go_round
            case rel => exact ⟨m + 1, _, by omega, by go_num, rfl⟩
            case measure => simp [intOf]; omega
          all_goals
            go_ret
            exact ⟨⟨_, rfl⟩, hb⟩
        · go_wp2
          go_round
          case rel => exact ⟨k + 1, _, by omega, by go_num, rfl⟩
          case measure => simp [intOf]; omega
    · go_wp2
      iterate 4 (focus (go_ret; exact ⟨⟨_, rfl⟩, hb⟩))
      go_loop [11, 14] (fun z i => ∃ (k : Nat) (n : Int), k ≤ l1 ∧ i = .int .i64 k ∧ z = .int .i64 n) (fun _ i => l1 - (intOf i).toNat)
      case atStart => exact ⟨0, _, Nat.zero_le _, rfl, rfl⟩
      case round =>
        obtain ⟨k, n, hk, rfl, rfl⟩ := hrel
        by_cases hlt : k < l1
        · obtain ⟨b, off, rfl, hc⟩ := h1.str s1 (by omega)
          go_wp2
          go_loop [11, 15] (fun z i => ∃ (m : Nat) (n : Int), m ≤ 2 ∧ i = .int .i64 m ∧ z = .int .i64 n) (fun _ i => 2 - (intOf i).toNat)
          case atStart => exact ⟨0, _, by omega, rfl, rfl⟩
          case round =>
            obtain ⟨m, n, hm, rfl, rfl⟩ := hrel
            by_cases hmt : m < 2
            · obtain ⟨s0, d0⟩ := hc (k * 2 + m) (by omega)
              rw [← Nat.add_assoc] at d0
              go_wp2
              case roundEnd =>
                go_round
                case rel => exact ⟨m + 1, _, by omega, by go_num, rfl⟩
                case measure => simp [intOf]; omega
              all_goals
                go_ret
                exact ⟨⟨_, rfl⟩, hb⟩
            · go_wp2
              go_round
              case rel => exact ⟨k + 1, _, by omega, by go_num, rfl⟩
              case measure => simp [intOf]; omega
        · go_wp2
          iterate 2 (focus (go_ret; exact ⟨⟨_, rfl⟩, hb⟩))
          go_loop [11, 16] (fun z i => ∃ (k : Nat) (n : Int), k ≤ l2 ∧ i = .int .i64 k ∧ z = .int .i64 n) (fun _ i => l2 - (intOf i).toNat)
          case atStart => exact ⟨0, _, Nat.zero_le _, rfl, rfl⟩
          case round =>
            obtain ⟨k, n, hk, rfl, rfl⟩ := hrel
            by_cases hlt : k < l2
            · obtain ⟨b, off, rfl, hc⟩ := h2.str s2 (by omega)
              go_wp2
              go_loop [11, 17] (fun z i => ∃ (m : Nat) (n : Int), m ≤ 2 ∧ i = .int .i64 m ∧ z = .int .i64 n) (fun _ i => 2 - (intOf i).toNat)
              case atStart => exact ⟨0, _, by omega, rfl, rfl⟩
              case round =>
                obtain ⟨m, n, hm, rfl, rfl⟩ := hrel
                by_cases hmt : m < 2
                · obtain ⟨s0, d0⟩ := hc (k * 2 + m) (by omega)
                  rw [← Nat.add_assoc] at d0
                  go_wp2
                  case roundEnd =>
                    go_round
                    case rel => exact ⟨m + 1, _, by omega, by go_num, rfl⟩
                    case measure => simp [intOf]; omega
                  all_goals
                    go_ret
                    exact ⟨⟨_, rfl⟩, hb⟩
                · go_wp2
                  go_round
                  case rel => exact ⟨k + 1, _, by omega, by go_num, rfl⟩
                  case measure => simp [intOf]; omega
            · go_wp2
              iterate 2 (focus (go_ret; exact ⟨⟨_, rfl⟩, hb⟩))
              go_loop [11, 18] (fun z i => ∃ (k : Nat) (n : Int), k ≤ l3 ∧ i = .int .i64 k ∧ z = .int .i64 n) (fun _ i => l3 - (intOf i).toNat)
              case atStart => exact ⟨0, _, Nat.zero_le _, rfl, rfl⟩
              case round =>
                obtain ⟨k, n, hk, rfl, rfl⟩ := hrel
                by_cases hlt : k < l3
                · obtain ⟨b, off, rfl, hc⟩ := h3.str s3 (by omega)
                  go_wp2
                  go_loop [11, 19] (fun z i => ∃ (m : Nat) (n : Int), m ≤ 3 ∧ i = .int .i64 m ∧ z = .int .i64 n) (fun _ i => 3 - (intOf i).toNat)
                  case atStart => exact ⟨0, _, by omega, rfl, rfl⟩
                  case round =>
                    obtain ⟨m, n, hm, rfl, rfl⟩ := hrel
                    by_cases hmt : m < 3
                    · go_wp2
                      go_loop [11, 20] (fun z i => ∃ (j : Nat) (n : Int), j ≤ 2 ∧ i = .int .i64 j ∧ z = .int .i64 n) (fun _ i => 2 - (intOf i).toNat)
                      case atStart => exact ⟨0, _, by omega, rfl, rfl⟩
                      case round =>
                        obtain ⟨j, n, hj, rfl, rfl⟩ := hrel
                        by_cases hjt : j < 2
                        · obtain ⟨s0, d0⟩ := hc (k * 6 + m * 2 + j) (by omega)
                          rw [← Nat.add_assoc, ← Nat.add_assoc] at d0
                          go_wp2
                          case roundEnd =>
                            go_round
                            case rel => exact ⟨j + 1, _, by omega, by go_num, rfl⟩
                            case measure => simp [intOf]; omega
                          all_goals
                            go_ret
                            exact ⟨⟨_, rfl⟩, hb⟩
                        · go_wp2
                          go_round
                          case rel => exact ⟨m + 1, _, by omega, by go_num, rfl⟩
                          case measure => simp [intOf]; omega
                    · go_wp2
                      go_round
                      case rel => exact ⟨k + 1, _, by omega, by go_num, rfl⟩
                      case measure => simp [intOf]; omega
                · go_wp2
                  go_ret
                  exact ⟨⟨_, rfl⟩, hb⟩

end Go.Proofs.Qxb6604664a
