import Derived.Test.Qxb6604592aPlain2
namespace Go.Proofs.Qxb6604592a
open Go.RowKit Go.Maps

set_option maxRecDepth 20000 in
set_option maxHeartbeats 1000000 in
theorem order_empty (a : Option Addr) (cap : Nat) (hc : a = none → cap = 0) (w : World) :
    Calls Try.prog 4 #[.slice a 0 cap] w fun e w' => e = .returned (.bool true) ∧ Below w.heap.size w w' := by
  obtain ⟨a', hcopy⟩ := copy_empty a cap hc w
  have HC : Hid (Calls Try.prog 7 #[.slice a 0 cap] w fun e w' => e = .returned (.slice a' 0 0) ∧ Below w.heap.size w w') := hcopy
  clear hcopy hc
  go_enter Try.func4, Try.ntmps4
  go_wp2_with fail
  refine (bytes12_empty a cap w).mono ?_
  rintro e w0 ⟨⟨r, rfl⟩, hw0⟩
  rw [hw0]
  clear hw0
  cases r
  · go_wp2
    go_ret
    exact ⟨rfl, Below.refl _ _⟩
  go_wp2_with fail
  refine (putBytes_empty a cap w).mono ?_
  rintro e w' ⟨⟨r, rfl⟩, hw'⟩
  rw [hw']
  clear hw'
  by_cases hr : 1048576 < r
  · go_wp2
    go_ret
    exact ⟨rfl, Below.refl _ _⟩
  go_wp2_with fail
  go_loopw [3] (fun i wr => i = .int .i64 0 ∧ wr = w) (fun _ _ => 0)
  case atStart => exact ⟨rfl, rfl⟩
  case round =>
    obtain ⟨rfl, hwr⟩ := hrel
    rw [hwr]
    clear hwr
    go_wp2_with fail
    refine HC.out.mono ?_
    rintro e w1 ⟨rfl, hb1⟩
    go_wp2_with fail
    refine (new_any w1).mono ?_
    rintro e w2 ⟨rfl, hw2⟩
    have hof : w2.ownsMap Try.prog 9 contentElem w1.heap.size 0 (filled []) := by
      rw [hw2]
      exact (World.ownsMap_made w1 Try.prog 9 contentElem).alloc _
    have cf : w2.cell? ⟨w1.heap.size + 1, 2, none⟩ = some (.map (some w1.heap.size)) := by rw [hw2]; simp [go_sem]
    have hsz2 : w2.heap.size = w1.heap.size + 2 := by rw [hw2]; simp
    have hb2 : Below w.heap.size w w2 := by rw [hw2]; exact (hb1.alloc (by have := hb1.size; omega) _).alloc (by have := hb1.size; simp; omega) _
    clear hw2
    obtain ⟨bf, hbf⟩ : ∃ bf, bf = w1.heap.size := ⟨_, rfl⟩
    rw [← hbf] at hof cf hsz2 ⊢
    have HSZ : Hid (w2.heap.size = bf + 2) := hsz2
    clear hbf hsz2 hb1
    go_wp2_with fail
    go_loopw [6] (fun i wr => i = .int .i64 0 ∧ wr = w2) (fun _ _ => 0)
    case atStart => exact ⟨rfl, rfl⟩
    case round =>
      obtain ⟨rfl, hwr⟩ := hrel
      rw [hwr]
      clear hwr
      go_wp2_with fail
      refine (new_any w2).mono ?_
      rintro e w3 ⟨rfl, hw3⟩
      have hor : w3.ownsMap Try.prog 9 contentElem w2.heap.size 0 (filled []) := by
        rw [hw3]
        exact (World.ownsMap_made w2 Try.prog 9 contentElem).alloc _
      have cr : w3.cell? ⟨w2.heap.size + 1, 2, none⟩ = some (.map (some w2.heap.size)) := by rw [hw3]; simp [go_sem]
      have hbb : Below w2.heap.size w2 w3 := by rw [hw3]; exact ((Below.refl _ _).alloc (Nat.le_refl _) _).alloc (by simp) _
      have hof3 : w3.ownsMap Try.prog 9 contentElem bf 0 (filled []) := hof.kept (row := none) ⟨hbb.os, hbb.tape, hbb.output, hbb.size, fun i hi _ => hbb.block i hi⟩ (by simp)
      have cf3 : w3.cell? ⟨bf + 1, 2, none⟩ = some (.map (some bf)) := (hbb.cell (p := ⟨bf + 1, 2, none⟩) (by have := HSZ.out; simp; omega)).trans cf
      have hb3 : Below w.heap.size w w3 := hb2.trans (hbb.mono hb2.size)
      obtain ⟨br, hbr⟩ : ∃ br, br = w2.heap.size := ⟨_, rfl⟩
      rw [← hbr] at hor cr ⊢
      clear hw3 hbr hbb hof cf hb2
      go_wp2_with fail
      go_loopw [8] (fun i wr => i = .int .i64 (-1) ∧ wr = w3) (fun _ _ => 0)
      case atStart => exact ⟨rfl, rfl⟩
      case round =>
        obtain ⟨rfl, hwr⟩ := hrel
        rw [hwr]
        clear hwr
        have hlF : ∀ ty, (Builtin.len_ #[34] ty #[.map (some bf)]).run Try.prog w3 = .ok (.int .i64 0) w3 := fun ty => hof3.len Try.underlying34 ty
        have hlR : ∀ ty, (Builtin.len_ #[34] ty #[.map (some br)]).run Try.prog w3 = .ok (.int .i64 0) w3 := fun ty => hor.len Try.underlying34 ty
        go_wp2_with fail
        refine (byPath_any (bf + 1) bf w3 cf3).mono ?_
        rintro e wq ⟨rfl, hwq⟩
        rw [hwq]
        clear hwq
        go_wp2_with fail
        refine (byPath_any (br + 1) br w3 cr).mono ?_
        rintro e wq ⟨rfl, hwq⟩
        rw [hwq]
        clear hwq
        go_wp2_with fail
        go_loopw [11] (fun i wr => i = .int .i64 0 ∧ wr = w3) (fun _ _ => 0)
        case atStart => exact ⟨rfl, rfl⟩
        case round =>
          obtain ⟨rfl, hwr⟩ := hrel
          rw [hwr]
          clear hwr
          go_wp2
          go_ret
          exact ⟨rfl, hb3⟩
end Go.Proofs.Qxb6604592a
