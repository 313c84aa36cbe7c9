import Derived.Test.Qxb6604592aRows
import Derived.Test.Qxb6604592aLocks
import Derived.Conc.MuLone
import Derived.Maps.OwnSet
import Derived.WalkKit
import Derived.WalkSpells
import Derived.WalkLawsBesides
import Derived.RegionTactic
import Derived.ChangeAlike
import Derived.Deep.RegionHeld3
namespace Go.Proofs.Qxb6604592a
open Go.RowKit Go.Maps
open Go.MuLone
open Go.WideMaps (keyOf_string_mk)

theorem law9 : Keyed Try.prog 9 := string_keyed Try.underlying9
theorem zero32 (w : World) : (zeroValue 32).run Try.prog w = .ok (.agg #[.string ByteArray.empty, .int .i64 0, .int .i64 0, .int .i64 0]) w := by kernel_rfl

/-- A Content's fields, as they are read. -/
def contentList : List Value → Option (DataW Unit × List MemPlace)
  | [.string n, .int .i64 a, .int .i64 b, .int .i64 c] => some (.agg [.lit (.string n.data.toList), .lit (.int .i64 a), .lit (.int .i64 b), .lit (.int .i64 c)], [])
  | _ => none
/-- A Content, as the map's elements are read: through no place. -/
def contentElem (v : Value) : Option (DataW Unit × List MemPlace) :=
  match v with
  | .agg xs => contentList xs.toList
  | _ => none
theorem contentElem_mk (n : ByteArray) (a b c : Int) : contentElem (.agg #[.string n, .int .i64 a, .int .i64 b, .int .i64 c]) = some (.agg [.lit (.string n.data.toList), .lit (.int .i64 a), .lit (.int .i64 b), .lit (.int .i64 c)], []) := rfl

set_option maxHeartbeats 400000 in
theorem content_any (p n : ByteArray) (a b c : Int) (w : World) :
    Calls Try.prog 10 #[.agg #[.string p, .string n, .int .i64 a, .int .i64 b, .int .i64 c]] w fun e w' => e = .returned (.agg #[.string n, .int .i64 a, .int .i64 b, .int .i64 c]) ∧
      w' = (w.alloc (.cells #[.string p, .string n, .int .i64 a, .int .i64 b, .int .i64 c] 30)).alloc (.cells #[.string n, .int .i64 a, .int .i64 b, .int .i64 c] 32) := by
  go_enter Try.func10, Try.ntmps10
  go_wp2
  exact bodyPost_ret (v := .agg #[.string n, .int .i64 a, .int .i64 b, .int .i64 c]) (by simp [results, Try.results10, go_sem]) rfl ⟨rfl, rfl⟩

set_option maxHeartbeats 400000 in
theorem new_any (w : World) :
    Calls Try.prog 8 #[] w fun e w' => e = .returned (.pointer (some ⟨w.heap.size + 1, 0, none⟩)) ∧ w' = (w.alloc (.map #[] 0)).alloc (.cells #[.int .i32 0, .int .u32 0, .map (some w.heap.size)] 45) := by
  have hmm := @run_makeMap Try.prog
  go_enter Try.func8, Try.ntmps8
  go_wp2
  go_ret
  exact ⟨rfl, rfl⟩

set_option maxHeartbeats 400000 in
theorem byPath_any (tb bm : Nat) (w : World) (c2 : w.cell? ⟨tb, 2, none⟩ = some (.map (some bm))) :
    Calls Try.prog 11 #[.pointer (some ⟨tb, 0, none⟩)] w fun e w' => e = .returned (.map (some bm)) ∧ w' = w := by
  go_enter Try.func11, Try.ntmps11
  go_wp2
  go_ret
  exact ⟨rfl, rfl⟩

/-- A torrents, its lock free, in block tb; its map in block bm. -/
structure IsTs (w : World) (tb bm n : Nat) (D : DataW Unit) : Prop where
  c0 : w.cell? ⟨tb, 0, none⟩ = some (.int .i32 0)
  c2 : w.cell? ⟨tb, 2, none⟩ = some (.map (some bm))
  f0 : w.frozen? ⟨tb, 0, none⟩ = false
  ne : bm ≠ tb
  own : w.ownsMap Try.prog 9 contentElem bm n D

theorem IsTs.alloc {w : World} {tb bm n : Nat} {D : DataW Unit} (h : IsTs w tb bm n D) (o : Obj) : IsTs (w.alloc o) tb bm n D := by
  have htb : tb < w.heap.size := World.block_lt_of_cell? _ _ h.c0
  exact ⟨by rw [World.cell?_alloc_past _ _ _ htb]; exact h.c0, by rw [World.cell?_alloc_past _ _ _ htb]; exact h.c2, by rw [World.frozen?_alloc_past _ _ _ htb]; exact h.f0, h.ne, h.own.alloc o⟩

theorem IsTs.below {w w' : World} {tb bm n : Nat} {D : DataW Unit} (h : IsTs w tb bm n D) (hb : Below w.heap.size w w') : IsTs w' tb bm n D := by
  have htb : tb < w.heap.size := World.block_lt_of_cell? _ _ h.c0
  exact ⟨(hb.cell (p := ⟨tb, 0, none⟩) htb).trans h.c0, (hb.cell (p := ⟨tb, 2, none⟩) htb).trans h.c2, (hb.frozen (p := ⟨tb, 0, none⟩) htb).trans h.f0, h.ne, h.own.kept (row := none) ⟨hb.os, hb.tape, hb.output, hb.size, fun i hi _ => hb.block i hi⟩ (by simp)⟩
theorem IsTs.drew {w : World} {tb bm n : Nat} {D : DataW Unit} (h : IsTs w tb bm n D) : IsTs w.drew tb bm n D := ⟨h.c0, h.c2, h.f0, h.ne, h.own⟩
theorem IsTs.lt {w : World} {tb bm n : Nat} {D : DataW Unit} (h : IsTs w tb bm n D) : tb < w.heap.size ∧ bm < w.heap.size := ⟨World.block_lt_of_cell? _ _ h.c0, h.own.lt⟩

/-- Of what was there only blocks tb and bm may have turned. -/
structure Touched (w w' : World) (tb bm : Nat) : Prop where
  os : w'.os = w.os
  tape : w'.tape = w.tape
  output : w'.output = w.output
  size : w.heap.size ≤ w'.heap.size
  block : ∀ x, x < w.heap.size → x ≠ tb → x ≠ bm → w'.heap[x]? = w.heap[x]?
theorem Touched.refl (w : World) (tb bm : Nat) : Touched w w tb bm := ⟨rfl, rfl, rfl, Nat.le_refl _, fun _ _ _ _ => rfl⟩
theorem Touched.trans {w w' w'' : World} {tb bm : Nat} (h : Touched w w' tb bm) (k : Touched w' w'' tb bm) : Touched w w'' tb bm :=
  ⟨k.os.trans h.os, k.tape.trans h.tape, k.output.trans h.output, Nat.le_trans h.size k.size, fun x hx h1 h2 => (k.block x (Nat.lt_of_lt_of_le hx h.size) h1 h2).trans (h.block x hx h1 h2)⟩
theorem Touched.of_below {w w' : World} {tb bm : Nat} (h : Below w.heap.size w w') : Touched w w' tb bm := ⟨h.os, h.tape, h.output, h.size, fun x hx _ _ => h.block x hx⟩
theorem Touched.drew {w w' : World} {tb bm : Nat} (h : Touched w w' tb bm) : Touched w w'.drew tb bm := ⟨h.os, h.tape, h.output, h.size, h.block⟩
theorem Touched.alloc {w w' : World} {tb bm : Nat} (h : Touched w w' tb bm) (o : Obj) : Touched w (w'.alloc o) tb bm := h.trans (Touched.of_below ((Below.refl _ _).alloc (Nat.le_refl _) o))
theorem Touched.below {w w' : World} {tb bm B : Nat} (h : Touched w w' tb bm) (hB : B ≤ w.heap.size) (h1 : B ≤ tb) (h2 : B ≤ bm) : Below B w w' :=
  ⟨h.os, h.tape, h.output, h.size, fun x hx => h.block x (by omega) (by omega) (by omega)⟩
theorem Touched.cell {w w' : World} {tb bm : Nat} (h : Touched w w' tb bm) {p : Addr} (hp : p.block < w.heap.size) (h1 : p.block ≠ tb) (h2 : p.block ≠ bm) : w'.cell? p = w.cell? p :=
  World.cell?_of_block (w := w) (h.block p.block hp h1 h2)

set_option maxHeartbeats 400000 in
theorem put_any (tb bm n : Nat) (D : DataW Unit) (p nm : ByteArray) (a b c : Int) (w : World) (h : IsTs w tb bm n D) (hn : n < maxLen) (hp : p.size ≤ maxLen) :
    Calls Try.prog 13 #[.pointer (some ⟨tb, 0, none⟩), .string p, .agg #[.string nm, .int .i64 a, .int .i64 b, .int .i64 c]] w fun e w' => e = .returned (.tuple #[]) ∧
      IsTs w' tb bm (n + 1) (D.put (.string p.data.toList) (.agg [.lit (.string nm.data.toList), .lit (.int .i64 a), .lit (.int .i64 b), .lit (.int .i64 c)])) ∧
      Touched w w' tb bm := by
  obtain ⟨c0, c2, f0, hbs, hown⟩ := h
  have hkey := keyOf_string_mk Try.underlying9 hp
  have htb : tb < w.heap.size := World.block_lt_of_cell? _ _ c0
  have hown1 := (((hown.setCell (a := ⟨tb, 0, none⟩) hbs (.int .i32 1)).alloc (.cells #[.string nm, .int .i64 a, .int .i64 b, .int .i64 c] 32)).drew)
  obtain ⟨w2, hrun, hown2, hgrow⟩ := hown1.update law9 Try.underlying34 hn hkey (contentElem_mk nm a b c)
  have c0a : (w.alloc (.cells #[.string nm, .int .i64 a, .int .i64 b, .int .i64 c] 32)).cell? ⟨tb, 0, none⟩ = some (.int .i32 0) := by simp [go_sem, htb, c0]
  have f0a : (w.alloc (.cells #[.string nm, .int .i64 a, .int .i64 b, .int .i64 c] 32)).frozen? ⟨tb, 0, none⟩ = false := by simp [go_sem, htb, f0]
  go_enter_defers Try.func13, Try.ntmps13
  go_wp2_with (go_at_call 14; refine (lock_free Try.muLib ⟨tb, 0, none⟩ _ c0a f0a).mono ?_; rintro e w' ⟨rfl, rfl⟩)
  go_region
  go_wp2
  have kc : ∀ j, w2.cell? ⟨tb, j, none⟩ = (w.setCell ⟨tb, 0, none⟩ (.int .i32 1)).cell? ⟨tb, j, none⟩ := fun j => by
    have hblk := hgrow.block tb (by simp; omega) (fun e => hbs (Option.some.inj e).symm)
    have hb2 : w2.heap[tb]? = (w.setCell ⟨tb, 0, none⟩ (.int .i32 1)).heap[tb]? := hblk.trans (Below.heap_alloc _ _ _ (by simp; omega))
    simp only [World.cell?, hb2]
  have kf : w2.frozen? ⟨tb, 0, none⟩ = false := by
    have hblk := hgrow.block tb (by simp; omega) (fun e => hbs (Option.some.inj e).symm)
    have hb2 : w2.heap[tb]? = (w.setCell ⟨tb, 0, none⟩ (.int .i32 1)).heap[tb]? := hblk.trans (Below.heap_alloc _ _ _ (by simp; omega))
    rw [World.frozen?_of_block (w := w.setCell ⟨tb, 0, none⟩ (.int .i32 1)) hb2]
    simp [f0]
  have k0 : w2.cell? ⟨tb, 0, none⟩ = some (.int .i32 1) := (kc 0).trans (World.cell?_setCell_same w ⟨tb, 0, none⟩ (.int .i32 1) c0)
  have k2 : w2.cell? ⟨tb, 2, none⟩ = some (.map (some bm)) := (kc 2).trans ((World.cell?_setCell_other w ⟨tb, 0, none⟩ ⟨tb, 2, none⟩ _ (by simp)).trans c2)
  refine leaves_cons (f := 15) (args := #[.pointer (some ⟨tb, 0, none⟩)]) (by simp) (by simp [go_sem]) ?_
  refine (unlock_deferred Try.muLib ⟨tb, 0, none⟩ .returning _ k0 kf).mono ?_
  rintro e u' w'' ⟨rfl, rfl, rfl⟩
  have hsz : w.heap.size ≤ w2.heap.size := by
    have := hgrow.size
    simp at this
    omega
  refine ⟨_, results_none rfl _ _ _, rfl, ⟨?_, ?_, ?_, hbs, hown2.setCell (a := ⟨tb, 0, none⟩) hbs _⟩, ⟨?_, ?_, ?_, ?_, ?_⟩⟩
  · exact World.cell?_setCell_same w2 ⟨tb, 0, none⟩ _ k0
  · exact (World.cell?_setCell_other w2 ⟨tb, 0, none⟩ ⟨tb, 2, none⟩ _ (by simp)).trans k2
  · simp [kf]
  · exact hgrow.os
  · exact hgrow.tape
  · exact hgrow.output
  · simpa using hsz
  · intro x hx h1 h2
    rw [Below.heap_setCell _ _ _ _ h1, hgrow.block x (by simp; omega) (fun e => h2 (Option.some.inj e))]
    show ((w.setCell ⟨tb, 0, none⟩ (.int .i32 1)).alloc (.cells #[.string nm, .int .i64 a, .int .i64 b, .int .i64 c] 32)).heap[x]? = _
    rw [Below.heap_alloc _ _ _ (by simp; omega), Below.heap_setCell _ _ _ _ h1]

set_option maxHeartbeats 400000 in
theorem zzput_any (tb bm n : Nat) (D : DataW Unit) (p nm : ByteArray) (a b c : Int) (w : World) (h : IsTs w tb bm n D) (hn : n < maxLen) (hp : p.size ≤ maxLen) :
    Calls Try.prog 9 #[.pointer (some ⟨tb, 0, none⟩), .string p, .agg #[.string nm, .int .i64 a, .int .i64 b, .int .i64 c]] w fun e w' => e = .returned (.tuple #[]) ∧
      IsTs w' tb bm (n + 1) (D.put (.string p.data.toList) (.agg [.lit (.string nm.data.toList), .lit (.int .i64 a), .lit (.int .i64 b), .lit (.int .i64 c)])) ∧
      Touched w w' tb bm := by
  go_enter Try.func9, Try.ntmps9
  go_wp2_with fail
  refine (put_any tb bm n D p nm a b c _ (h.alloc _) hn hp).mono ?_
  rintro e w' ⟨rfl, h1, h2⟩
  go_wp2
  go_end0
  exact ⟨rfl, h1, (Touched.refl w tb bm |>.alloc _).trans h2⟩
end Go.Proofs.Qxb6604592a
