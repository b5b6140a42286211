/-
  PROOF OF 'Rows.FnValidateAnswersOnlyTheSerialsSaid': the frame is the one that proof-skeleton.mjs writes for laws with slices ('Below'), turned to six parameters with structs; the walk is in the text Walk.
-/
import Derived.Test.Qxb6616234aRows
import Derived.Test.Qxb6616234aWalk
import Derived.Test.Qxb6616234aOpen
import Derived.ProofKit
import Derived.OpenShut
import Derived.ShutString
import Derived.ChangeOld
import Derived.Below
namespace Go.Proofs.Qxb6616234a.fnValidateAnswersOnlyTheSerials
open Go.ChangeShapes Go.WideShapes Go.ChangeAt Go.RowKit

theorem own : ownKnob Try.prog.godebug = none := by kernel_rfl
theorem laidOut : laidOutB Try.prog = true := by kernel_rfl

set_option maxRecDepth 100000 in
theorem lifted (os : Os) (started : os.Started) (H : Type) (enc : TypeId × Value → H) :
    ReturnsInHanded {} Try.checked os 3 .any (Rows.fnValidateAnswersOnlyTheSerialsSpec.pre6 enc Try.prog Try.f3 Rows.fnValidateAnswersOnlyTheSerialsRow.domain false) (Rows.fnValidateAnswersOnlyTheSerialsSpec.post enc Try.prog Try.f3 false true false false) := by
  refine returnsInHanded_of_change (C := Try.checked) own started (by kernel_rfl) Try.func3
    (ChangeSpec.witness6 (enc := enc) (C := Try.checked) false ⟨#[], #[.agg #[.slice none 0 0, .slice none 0 0, .int .u8 0, .int .i64 0], .int .u8 0, .agg #[.int .u32 0, .string ByteArray.empty, .int .u32 0, .int .u8 0, .int .u8 0, .pointer none], .agg #[.string ByteArray.empty, .int .u32 0, .pointer none, .pointer none], .bool false, .agg #[.slice none 0 0, .slice none 0 0, .int .i64 0, .string ByteArray.empty, .int .u32 0, .int .u8 0, .int .u8 0, .string ByteArray.empty, .pointer none]], []⟩ 8 (by kernel_rfl) (by kernel_rfl) (by kernel_rfl) (by kernel_rfl)) ?_
  intro W base args ds gs before hval0 hW hcnd _
  have hval : ∀ (j : Nat) t v, Try.f3.params[j]? = some t → args[j]? = some v → Value.okWide Try.prog W .any base t v := hval0
  have hW' := hW
  obtain ⟨p, q, hA0, hV, rfl, hfz, hnd⟩ := hW
  have hA : DataW.TrodAll enc Try.prog W 0 (fun _ => true) true Try.f3.params.toList args.toList ds p := hA0
  rw [Try.params3] at hA hval
  obtain ⟨v0, vs0, d0, ds0, p0, q0, hargs, rfl, rfl, h0, r0⟩ := trodAll_cons hA
  obtain ⟨v1, vs1, d1, ds1, p1, q1, rfl, rfl, rfl, h1, r1⟩ := trodAll_cons r0
  obtain ⟨v2, vs2, d2, ds2, p2, q2, rfl, rfl, rfl, h2, r2⟩ := trodAll_cons r1
  obtain ⟨v3, vs3, d3, ds3, p3, q3, rfl, rfl, rfl, h3, r3⟩ := trodAll_cons r2
  obtain ⟨v4, vs4, d4, ds4, p4, q4, rfl, rfl, rfl, h4, r4⟩ := trodAll_cons r3
  obtain ⟨v5, vs5, d5, ds5, p5, q5, rfl, rfl, rfl, h5, r5⟩ := trodAll_cons r4
  obtain ⟨rfl, rfl, rfl⟩ := trodAll_nil r5
  obtain rfl : args = #[v0, v1, v2, v3, v4, v5] := by cases args; simp_all
  obtain ⟨rfl, rfl⟩ := trodVars_none hV
  have lt0 : ∀ x ∈ p0, x.block < W.heap.size := by obtain ⟨m, hm⟩ := h0; exact DataW.trod_lt m _ _ _ hm
  have lt1 : ∀ x ∈ p1, x.block < W.heap.size := by obtain ⟨m, hm⟩ := h1; exact DataW.trod_lt m _ _ _ hm
  have lt2 : ∀ x ∈ p2, x.block < W.heap.size := by obtain ⟨m, hm⟩ := h2; exact DataW.trod_lt m _ _ _ hm
  have lt3 : ∀ x ∈ p3, x.block < W.heap.size := by obtain ⟨m, hm⟩ := h3; exact DataW.trod_lt m _ _ _ hm
  have lt4 : ∀ x ∈ p4, x.block < W.heap.size := by obtain ⟨m, hm⟩ := h4; exact DataW.trod_lt m _ _ _ hm
  have lt5 : ∀ x ∈ p5, x.block < W.heap.size := by obtain ⟨m, hm⟩ := h5; exact DataW.trod_lt m _ _ _ hm
  obtain ⟨a0, l0, c0, a1, l1, c1, code, ct, e0, s0, s1⟩ := open_cfg (hval 0 24 v0 rfl rfl) h0
  obtain ⟨oc, e1⟩ : ∃ oc, v1 = .int .u8 oc := by
    obtain ⟨x, hx, _⟩ := open_int Try.underlying5 (hval 1 5 v1 rfl rfl) h1
    exact ⟨x, hx⟩
  obtain ⟨es, m1, k2, k3, k4, mp, n1, e2, s2⟩ := open_rn (hval 2 28 v2 rfl rfl) h2
  obtain ⟨m2, et, mq, sv, n2, e3, s3, s4⟩ := open_sub (hval 3 31 v3 rfl rfl) h3
  obtain ⟨ok, e4⟩ : ∃ ok, v4 = .bool ok := by
    obtain ⟨x, hx, _⟩ := open_bool Try.underlying4 (hval 4 4 v4 rfl rfl) h4
    exact ⟨x, hx⟩
  obtain ⟨a2, l2, c2, a3, l3, c3, ct2, m3, t4, t5, t6, m4, sw, e5, s5, s6, s7⟩ := open_alt (hval 5 33 v5 rfl rfl) h5
  clear hA0 hval0
  have hw := walk a0 a1 a2 a3 mp mq sv sw l0 c0 l1 c1 l2 c2 l3 c3 code ct oc es k2 k3 k4 et ct2 t4 t5 t6 m1 m2 m3 m4 ok n1 n2 W s0 s1 s5 s6 s4 s7 s2 s3
  rw [← e0, ← e1, ← e2, ← e3, ← e4, ← e5] at hw
  refine hw.mono fun e W' ⟨he, bel⟩ => ?_
  subst he
  exact ⟨_, rfl, _, _, _, [], _, [], hW', trodAll_mk1 (shut_bool Try.underlying4 _),
    (trodAll_cons_mk (Below.trod laidOut (by kernel_rfl) (of_decide_eq_true (by kernel_rfl)) h0 bel lt0) (trodAll_cons_mk (Below.trod laidOut (by kernel_rfl) (of_decide_eq_true (by kernel_rfl)) h1 bel lt1) (trodAll_cons_mk (Below.trod laidOut (by kernel_rfl) (of_decide_eq_true (by kernel_rfl)) h2 bel lt2) (trodAll_cons_mk (Below.trod laidOut (by kernel_rfl) (of_decide_eq_true (by kernel_rfl)) h3 bel lt3) (trodAll_cons_mk (Below.trod laidOut (by kernel_rfl) (of_decide_eq_true (by kernel_rfl)) h4 bel lt4) (trodAll_cons_mk (Below.trod laidOut (by kernel_rfl) (of_decide_eq_true (by kernel_rfl)) h5 bel lt5) trodAll_mk0)))))), rfl, bel.frame _, fun h => by cases h⟩

theorem over : Rows.fnValidateAnswersOnlyTheSerialsRow.holds Try.pinned (OpenSpec.ofChange Rows.fnValidateAnswersOnlyTheSerialsSpec) :=
  OpenClaim.holds_of_wide 3 Try.f3 rfl rfl rfl rfl rfl rfl rfl ⟨rfl, rfl, rfl, rfl, rfl⟩ rfl rfl rfl rfl rfl (by kernel_rfl) Try.func3 (by kernel_rfl)
    (of_decide_eq_true (by kernel_rfl)) (by unfold Func.isWrapper; first | (rw [if_pos (by decide +kernel)]; kernel_rfl) | (rw [if_neg (by decide +kernel)]; exact ⟨rfl, rfl⟩))
    (fun os started H enc _ => lifted os started H enc)

/-- THE STATEMENT -/
theorem proved : Rows.FnValidateAnswersOnlyTheSerialsSaid :=
  over
end Go.Proofs.Qxb6616234a.fnValidateAnswersOnlyTheSerials
