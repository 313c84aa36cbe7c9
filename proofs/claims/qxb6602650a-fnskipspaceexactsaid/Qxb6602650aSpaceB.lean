import Derived.Test.Qxb6602650aSpaceA
import Derived.Deep.LoopGhost
namespace Go.Proofs.Qxb6602650a
open Go.RowKit

/-- From n0 the reader has skipped to j: all bytes on the way are spaces. -/
structure Skipped (xs : List Int) (n0 j : Nat) : Prop where
  ge : n0 ≤ j
  le : j ≤ n0 ∨ j ≤ xs.length
  sp : ∀ i c, n0 ≤ i → i < j → xs[i]? = some c → isSp c = true
structure Stopped (xs : List Int) (n0 j : Nat) : Prop extends Skipped xs n0 j where
  stop : ∀ c, xs[j]? = some c → isSp c = false

theorem Skipped.next {xs : List Int} {n0 j : Nat} {c : Int} (h : Skipped xs n0 j) (hc : xs[j]? = some c) (hs : isSp c = true) : Skipped xs n0 (j + 1) := by
  have hj : j < xs.length := (List.getElem?_eq_some_iff.1 hc).1
  refine ⟨by have := h.ge; omega, .inr hj, fun i d h1 h2 hd => ?_⟩
  by_cases hi : i = j
  · subst hi; rw [hc] at hd; cases hd; exact hs
  · exact h.sp i d h1 (by omega) hd

/-- The reader at block g. -/
structure Reader (w : World) (g : Nat) (a : Option Addr) (len cap j : Nat) : Prop where
  data : w.cell? ⟨g, 0, none⟩ = some (.slice a len cap)
  pos : w.cell? ⟨g, 1, none⟩ = some (.int .i64 (j : Int))
  free : w.frozen? ⟨g, 1, none⟩ = false

theorem below_drewN {B : Nat} {w w' : World} (h : Below B w w') (q : Nat) : Below B w (w'.drewN q) := ⟨h.os, h.tape, h.output, h.size, h.block⟩
theorem Reader.step {w : World} {g : Nat} {a : Option Addr} {len cap j : Nat} (h : Reader w g a len cap j) (q : Nat) : Reader ((w.drewN q).setCell ⟨g, 1, none⟩ (.int .i64 ((j : Int) + 1))) g a len cap (j + 1) := by
  obtain ⟨h0, h1, h2⟩ := h
  exact ⟨by simp [go_sem, h0], by simp [go_sem, h1], by simp [go_sem, h2]⟩

def SkipPost (xs : List Int) (n0 g : Nat) (w : World) (e : Ending) (w' : World) : Prop := ∃ j : Nat, e = .returned (.tuple #[]) ∧ w'.cell? ⟨g, 1, none⟩ = some (.int .i64 (j : Int)) ∧ Stopped xs n0 j ∧ Below g w w'

set_option maxHeartbeats 2000000 in
theorem skip_any (a : Option Addr) (len cap g n0 : Nat) (xs : List Int) (w : World) (h : BytesOf w a len xs) (hm : len ≤ 1048576) (hr : Reader w g a len cap n0) (hg : 0 < len → ∀ b off, a = some ⟨b, off, none⟩ → b < g) :
    Calls Try.prog 22 #[.pointer (some ⟨g, 0, none⟩)] w fun e w' => SkipPost xs n0 g w e w' := by
  go_enter Try.func22, Try.ntmps22
  go_wp2
  go_loopg [] (len - n0) (fun k wr => ∃ j : Nat, k = len - j ∧ Reader wr g a len cap j ∧ Hid (Skipped xs n0 j) ∧ Below g w wr)
  case atStart => exact ⟨n0, rfl, hr, ⟨Nat.le_refl _, .inl (Nat.le_refl _), fun i c h1 h2 => by omega⟩, Below.refl _ _⟩
  case round =>
    obtain ⟨j, rfl, hrd, HS, hb⟩ := hrel
    have HR : Hid (∀ q, Reader ((wr.drewN q).setCell ⟨g, 1, none⟩ (.int .i64 ((j : Int) + 1))) g a len cap (j + 1)) := fun q => hrd.step q
    obtain ⟨r0, r1, r2⟩ := hrd
    clear hr
    by_cases hlt : j < len
    · obtain ⟨b, off, rfl, hc⟩ := h.cells (by omega)
      have bg := hg (by omega) _ _ rfl
      obtain ⟨c, ec⟩ : ∃ u, xs[j]? = some u := ⟨_, List.getElem?_eq_getElem (by have := h.len_eq; omega)⟩
      have c0 := hc _ _ ec
      rw [← hb.cell (p := ⟨b, _, none⟩) bg] at c0
      clear hc hg
      have i0 : (0 : Int) ≤ (j : Int) := by omega
      have i1 : (j : Int) < (len : Int) := by omega
      by_cases sp : c = 32 ∨ c = 9 ∨ c = 10 ∨ c = 13
      · have HN : Hid (Skipped xs n0 (j + 1)) := HS.out.next ec (decide_eq_true sp)
        clear HS ec
        rcases sp with rfl | rfl | rfl | rfl
        all_goals
          go_wp2
          go_quiet (fail)
          go_wp2
          go_quiet (fail)
          go_wp2
          go_roundg (len - (j + 1))
          case rel => exact ⟨j + 1, rfl, HR.out _, HN, (below_drewN hb _).setCell (Nat.le_refl _) _⟩
          case measure => omega
      · have HT : Hid (Stopped xs n0 j) := ⟨HS.out, fun d hd => by rw [ec] at hd; cases hd; exact decide_eq_false sp⟩
        have t1 : (c == 32) = false := by simp; omega
        have t2 : (c == 9) = false := by simp; omega
        have t3 : (c == 10) = false := by simp; omega
        have t4 : (c == 13) = false := by simp; omega
        clear HS ec HR sp
        go_wp2
        go_quiet (fail)
        go_wp2
        go_quiet (fail)
        go_wp2
        refine bodyPost_ret (results_none rfl _ _ _) rfl ?_
        exact ⟨j, rfl, by simpa [go_sem] using r1, HT.out, below_drewN hb _⟩
    · have HT : Hid (Stopped xs n0 j) := ⟨HS.out, fun d hd => by rw [List.getElem?_eq_none (by have := h.len_eq; omega)] at hd; cases hd⟩
      clear HS HR
      go_wp2
      go_quiet (fail)
      go_wp2
      go_end0
      exact ⟨j, rfl, by simpa [go_sem] using r1, HT.out, below_drewN hb _⟩

def ZzPost (xs : List Int) (n0 : Nat) (w : World) (e : Ending) (w' : World) : Prop := ∃ j : Nat, e = .returned (.int .i64 (j : Int)) ∧ Stopped xs n0 j ∧ Below w.heap.size w w'

set_option maxHeartbeats 1000000 in
theorem zzskip_any (a : Option Addr) (len cap n0 : Nat) (xs : List Int) (w : World) (h : BytesOf w a len xs) (hm : len ≤ 1048576) :
    Calls Try.prog 16 #[.slice a len cap, .int .i64 (n0 : Int)] w fun e w' => ZzPost xs n0 w e w' := by
  have HK : Hid (Calls Try.prog 22 #[.pointer (some ⟨w.heap.size, 0, none⟩)] (w.alloc (.cells #[.slice a len cap, .int .i64 (n0 : Int)] 33)) fun e w' => SkipPost xs n0 w.heap.size (w.alloc (.cells #[.slice a len cap, .int .i64 (n0 : Int)] 33)) e w') := by
    refine skip_any a len cap w.heap.size n0 xs _ (h.below (below_al (Below.refl _ _) _)) hm ⟨by simp [go_sem], by simp [go_sem], by simp [go_sem]⟩ ?_
    intro hp b off hab
    have hl := h.len_eq
    obtain ⟨b', off', hab', hc⟩ := h.cells hp
    rw [hab] at hab'
    cases hab'
    exact World.block_lt_of_cell? _ _ (hc 0 _ (List.getElem?_eq_getElem (by omega)))
  clear h
  go_enter Try.func16, Try.ntmps16
  go_wp2_with fail
  refine HK.out.mono ?_
  rintro e w' ⟨j, rfl, hj, HS, hb⟩
  have HS' : Hid (Stopped xs n0 j) := HS
  have HB : Hid (Below w.heap.size w w') := (below_al (Below.refl _ _) _).trans hb
  clear HK HS hb
  go_wp2
  go_ret
  exact ⟨j, rfl, HS'.out, HB.out⟩
end Go.Proofs.Qxb6602650a
