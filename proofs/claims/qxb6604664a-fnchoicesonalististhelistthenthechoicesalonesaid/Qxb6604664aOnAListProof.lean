import Derived.Test.Qxb6604664aTopB
import Derived.Test.Qxb6604664aOpen
import Derived.WalkKit
import Derived.ProofKit
import Derived.OpenShut
import Derived.ShutString
import Derived.ChangeOld
import Derived.Below
namespace Go.Proofs.Qxb6604664a.fnChoicesOnAListIsTheListThenTheChoicesAlone
open Go.ChangeShapes Go.WideShapes Go.ChangeAt Go.RowKit
open Go.ChangeMaps (open_string shut_string)

theorem own : ownKnob Try.prog.godebug = none := by kernel_rfl
theorem laid : laidOutB Try.prog = true := by kernel_rfl

set_option maxRecDepth 100000 in
set_option maxHeartbeats 1000000 in
theorem lifted (os : Os) (started : os.Started) (H : Type) (enc : TypeId × Value → H) :
    ReturnsInHanded {} Try.checked os 4 .any (Rows.fnChoicesOnAListIsTheListThenTheChoicesAloneSpec.pre6 enc Try.prog Try.f4 Rows.fnChoicesOnAListIsTheListThenTheChoicesAloneRow.domain false) (Rows.fnChoicesOnAListIsTheListThenTheChoicesAloneSpec.post enc Try.prog Try.f4 false true false false) := by
  refine returnsInHanded_of_change (C := Try.checked) own started (by kernel_rfl) Try.func4
    (ChangeSpec.witness6 (enc := enc) (C := Try.checked) false ⟨#[], #[.agg #[.string ByteArray.empty, .string ByteArray.empty, .string ByteArray.empty, .string ByteArray.empty, .string ByteArray.empty, .string ByteArray.empty], .string ByteArray.empty, .slice none 0 0, .slice none 0 0, .slice none 0 0], []⟩ 8 (by kernel_rfl) (by kernel_rfl) (by kernel_rfl) (by kernel_rfl)) ?_
  intro W base args ds gs before hval0 hW hcnd _
  have hval : ∀ (j : Nat) t v, Try.f4.params[j]? = some t → args[j]? = some v → Value.okWide Try.prog W .any base t v := hval0
  have hW' := hW
  obtain ⟨p, q, hA0, hV, rfl, hfz, hnd⟩ := hW
  have hA : DataW.TrodAll enc Try.prog W 0 (fun _ => true) true Try.f4.params.toList args.toList ds p := hA0
  rw [Try.params4] at hA hval
  obtain ⟨v0, vs0, d0, ds0, p0, q0, hargs, rfl, rfl, h0, r0⟩ := trodAll_cons hA
  obtain ⟨v1, vs1, d1, ds1, p1, q1, rfl, rfl, rfl, h1, r1⟩ := trodAll_cons r0
  obtain ⟨v2, vs2, d2, ds2, p2, q2, rfl, rfl, rfl, h2, r2⟩ := trodAll_cons r1
  obtain ⟨v3, vs3, d3, ds3, p3, q3, rfl, rfl, rfl, h3, r3⟩ := trodAll_cons r2
  obtain ⟨v4, vs4, d4, ds4, p4, q4, rfl, rfl, rfl, h4, r4⟩ := trodAll_cons r3
  obtain ⟨rfl, rfl, rfl⟩ := trodAll_nil r4
  obtain rfl : args = #[v0, v1, v2, v3, v4] := by cases args; simp_all
  obtain ⟨rfl, rfl⟩ := trodVars_none hV
  obtain ⟨xs0, rfl, _⟩ : ∃ xs : Array Value, v0 = .agg xs ∧ xs.size = Try.prog.cellsOf 23 := by
    have := hval 0 23 v0 rfl rfl
    simp only [Value.okWide, Try.underlying23] at this
    obtain ⟨cs, e1, e2, _⟩ := this
    exact ⟨cs, e1, e2⟩
  obtain ⟨gsv, rfl⟩ := okWide_string Try.underlying9 (hval 1 9 v1 rfl rfl)
  obtain ⟨a2, len2, cap2, rfl⟩ := okWide_slice Try.underlying24 (hval 2 24 v2 rfl rfl)
  obtain ⟨a3, len3, cap3, rfl⟩ := okWide_slice Try.underlying24 (hval 3 24 v3 rfl rfl)
  obtain ⟨a4, len4, cap4, rfl⟩ := okWide_slice Try.underlying25 (hval 4 25 v4 rfl rfl)
  have lt0 : ∀ x ∈ p0, x.block < W.heap.size := by obtain ⟨m, hm⟩ := h0; exact DataW.trod_lt m _ _ _ hm
  have lt1 : ∀ x ∈ p1, x.block < W.heap.size := by obtain ⟨m, hm⟩ := h1; exact DataW.trod_lt m _ _ _ hm
  have lt2 : ∀ x ∈ p2, x.block < W.heap.size := by obtain ⟨m, hm⟩ := h2; exact DataW.trod_lt m _ _ _ hm
  have lt3 : ∀ x ∈ p3, x.block < W.heap.size := by obtain ⟨m, hm⟩ := h3; exact DataW.trod_lt m _ _ _ hm
  have lt4 : ∀ x ∈ p4, x.block < W.heap.size := by obtain ⟨m, hm⟩ := h4; exact DataW.trod_lt m _ _ _ hm
  obtain ⟨s, hs, hst⟩ : ∃ s : Sl, xs0 = s.cells.toArray ∧ s.a.v.size ≤ maxLen := by
    obtain ⟨fuel, hf⟩ := h0
    obtain ⟨s, e, z⟩ := sel_of_trod (by simpa [Value.cells] using hf)
    exact ⟨s, by rw [← e], z⟩
  subst hs
  have hgs : gsv.size ≤ maxLen := by
    obtain ⟨fuel, hf⟩ := h1
    obtain ⟨z, e, _, hz⟩ := DataW.trod_string Try.underlying9 hf
    simp [Value.cells] at e
    subst e
    exact hz
  obtain ⟨n2, vv2, e2, S2⟩ : (a2 = none → len2 = 0 ∧ cap2 = 0) ∧ ∃ vs : List Pr, vs.length = len2 ∧ SliceOf W a2 len2 2 (rowP vs) := by
    obtain ⟨fuel, hf⟩ := h2
    exact slice_of_trod ⟨ByteArray.empty, ByteArray.empty⟩ Pr.cells (fun _ => rfl) (by omega) Try.underlying24 ocells22 (fun h => let ⟨p, e, _⟩ := pair_of_trod h; ⟨p, e⟩) (by simpa [Value.cells] using hf)
  obtain ⟨n3, vv3, e3, S3⟩ : (a3 = none → len3 = 0 ∧ cap3 = 0) ∧ ∃ vs : List Pr, vs.length = len3 ∧ SliceOf W a3 len3 2 (rowP vs) := by
    obtain ⟨fuel, hf⟩ := h3
    exact slice_of_trod ⟨ByteArray.empty, ByteArray.empty⟩ Pr.cells (fun _ => rfl) (by omega) Try.underlying24 ocells22 (fun h => let ⟨p, e, _⟩ := pair_of_trod h; ⟨p, e⟩) (by simpa [Value.cells] using hf)
  obtain ⟨n4, vv4, e4, S4⟩ : (a4 = none → len4 = 0 ∧ cap4 = 0) ∧ ∃ vs : List Sl, vs.length = len4 ∧ SliceOf W a4 len4 6 (rowS vs) := by
    obtain ⟨fuel, hf⟩ := h4
    exact slice_of_trod ⟨⟨ByteArray.empty, ByteArray.empty⟩, ⟨ByteArray.empty, ByteArray.empty⟩, ⟨ByteArray.empty, ByteArray.empty⟩⟩ Sl.cells (fun _ => rfl) (by omega) Try.underlying25 ocells23 (fun h => let ⟨p, e, _⟩ := sel_of_trod h; ⟨p, e⟩) (by simpa [Value.cells] using hf)
  clear hA0 hval0
  refine (onalist_any s gsv a2 a3 a4 len2 cap2 len3 cap3 len4 cap4 vv2 vv3 vv4 W hgs hst S2 e2 n2 S3 e3 n3 S4 e4 n4).mono fun e W' ⟨he, bel⟩ => ?_
  subst he
  exact ⟨_, rfl, _, _, _, [], _, [], hW', trodAll_mk1 (shut_bool Try.underlying4 _),
    (trodAll_cons_mk (Below.trod laid (by kernel_rfl) (of_decide_eq_true (by kernel_rfl)) h0 bel lt0) (trodAll_cons_mk (Below.trod laid (by kernel_rfl) (of_decide_eq_true (by kernel_rfl)) h1 bel lt1) (trodAll_cons_mk (Below.trod laid (by kernel_rfl) (of_decide_eq_true (by kernel_rfl)) h2 bel lt2) (trodAll_cons_mk (Below.trod laid (by kernel_rfl) (of_decide_eq_true (by kernel_rfl)) h3 bel lt3) (trodAll_cons_mk (Below.trod laid (by kernel_rfl) (of_decide_eq_true (by kernel_rfl)) h4 bel lt4) trodAll_mk0))))), rfl, bel.frame _, fun h => by cases h⟩

theorem over : Rows.fnChoicesOnAListIsTheListThenTheChoicesAloneRow.holds Try.pinned (OpenSpec.ofChange Rows.fnChoicesOnAListIsTheListThenTheChoicesAloneSpec) :=
  OpenClaim.holds_of_wide 4 Try.f4 rfl rfl rfl rfl rfl rfl rfl ⟨rfl, rfl, rfl, rfl, rfl⟩ rfl rfl rfl rfl rfl (by kernel_rfl) Try.func4 (by kernel_rfl)
    (of_decide_eq_true (by kernel_rfl)) (by unfold Func.isWrapper; first | (rw [if_pos (by decide +kernel)]; kernel_rfl) | (rw [if_neg (by decide +kernel)]; exact ⟨rfl, rfl⟩))
    (fun os started H enc _ => lifted os started H enc)

/-- ████ THE STATEMENT ████ -/
theorem proved : Rows.FnChoicesOnAListIsTheListThenTheChoicesAloneSaid := over
#print axioms proved
end Go.Proofs.Qxb6604664a.fnChoicesOnAListIsTheListThenTheChoicesAlone
