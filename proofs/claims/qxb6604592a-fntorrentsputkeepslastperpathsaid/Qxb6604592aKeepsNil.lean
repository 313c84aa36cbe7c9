import Derived.Test.Qxb6604592aKeeps
namespace Go.Proofs.Qxb6604592a
open Go.RowKit Go.Maps

set_option maxHeartbeats 1000000 in
theorem keeps_nil (w : World) :
    Calls Try.prog 3 #[.slice none 0 0] w fun e w' => e = .returned (.bool true) ∧ Below w.heap.size w w' := by
  go_enter Try.func3, Try.ntmps3
  go_wp2_with fail
  refine (bytes5_empty none 0 w).mono ?_
  rintro e w0 ⟨⟨r, rfl⟩, rfl⟩
  cases r
  · go_wp2
    go_ret
    exact ⟨rfl, Below.refl _ _⟩
  go_wp2_with fail
  refine (putBytes_empty none 0 w0).mono ?_
  rintro e w' ⟨⟨r, rfl⟩, hw'⟩
  rw [hw']
  clear hw'
  by_cases hr : 1048576 < r
  · go_wp2
    go_ret
    exact ⟨rfl, Below.refl _ _⟩
  go_wp2_with fail
  refine (copy_nil w0).mono ?_
  rintro e w1 ⟨rfl, hw1⟩
  rw [hw1]
  clear hw1
  go_wp2_with fail
  refine (new_any w0).mono ?_
  rintro e w2 ⟨rfl, hw2⟩
  have hown : w2.ownsMap Try.prog 9 contentElem w0.heap.size 0 (filled []) := by
    rw [hw2]
    exact (World.ownsMap_made w0 Try.prog 9 contentElem).alloc _
  have c2 : w2.cell? ⟨w0.heap.size + 1, 2, none⟩ = some (.map (some w0.heap.size)) := by rw [hw2]; simp [go_sem]
  have hb2 : Below w0.heap.size w0 w2 := by rw [hw2]; exact ((Below.refl _ _).alloc (Nat.le_refl _) _).alloc (by simp) _
  clear hw2
  go_wp2_with fail
  go_loopw [4] (fun i wr => i = .int .i64 0 ∧ wr = w2) (fun _ _ => 0)
  case atStart => exact ⟨rfl, rfl⟩
  case round =>
    obtain ⟨rfl, rfl⟩ := hrel
    go_wp2_with fail
    refine (byPath_any (w0.heap.size + 1) w0.heap.size _ c2).mono ?_
    rintro e wq ⟨rfl, hwq⟩
    rw [hwq]
    clear hwq
    go_wp2_with fail
    go_loopw [6, 7] (fun d i wx => d = .int .i64 0 ∧ i = .int .i64 0 ∧ Below w0.heap.size w0 wx ∧ wx.ownsMap Try.prog 9 contentElem w0.heap.size 0 (filled [])) (fun _ _ _ => 0)
    case atStart => exact ⟨rfl, rfl, hb2, hown⟩
    case round =>
      obtain ⟨rfl, rfl, hb3, hown3⟩ := hrel
      have hz : (size (filled []) : Int) = 0 := rfl
      go_wp2_with (at_len; refine wpList_len_own _ rfl _ 34 rfl 9 32 Try.underlying34 _ w0.heap.size 0 (filled []) rfl hown3 ?_)
      go_ret
      exact ⟨by simp, hb3⟩
end Go.Proofs.Qxb6604592a
