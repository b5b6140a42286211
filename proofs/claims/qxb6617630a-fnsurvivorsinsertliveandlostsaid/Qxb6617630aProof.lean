/-
  PROOF OF 'Rows.FnSurvivorsInsertLiveAndLostSaid': the frame is the one that proof-skeleton.mjs writes for laws with slices ('Below'), turned to eight parameters with maps; the walk is in the text Walk.
-/
import Derived.Test.Qxb6617630aRows
import Derived.Test.Qxb6617630aWalk
import Derived.Test.Qxb6617630aOpen
import Derived.ProofKit
import Derived.OpenShut
import Derived.ShutString
import Derived.ChangeOld
import Derived.Below
namespace Go.Proofs.Qxb6617630a.fnSurvivorsInsertLiveAndLost
open Go.ChangeShapes Go.WideShapes Go.ChangeAt Go.RowKit
open Go.ChangeMaps (open_string shut_string)

theorem own : ownKnob Try.prog.godebug = none := by kernel_rfl
theorem laidOut : laidOutB Try.prog = true := by kernel_rfl

set_option maxRecDepth 100000 in
theorem lifted (os : Os) (started : os.Started) (H : Type) (enc : TypeId × Value → H) :
    ReturnsInHanded {} Try.checked os 3 .any (Rows.fnSurvivorsInsertLiveAndLostSpec.pre6 enc Try.prog Try.f3 Rows.fnSurvivorsInsertLiveAndLostRow.domain false) (Rows.fnSurvivorsInsertLiveAndLostSpec.post enc Try.prog Try.f3 false true false false) := by
  refine returnsInHanded_of_change (C := Try.checked) own started (by kernel_rfl) Try.func3
    (ChangeSpec.witness6 (enc := enc) (C := Try.checked) false ⟨#[], #[.int .u64 0, .slice none 0 0, .map none, .map none, .string ByteArray.empty, .int .i64 0, .string ByteArray.empty, .int .i64 0], []⟩ 8 (by kernel_rfl) (by kernel_rfl) (by kernel_rfl) (by kernel_rfl)) ?_
  intro W base args ds gs before hval0 hW hcnd _
  have hval : ∀ (j : Nat) t v, Try.f3.params[j]? = some t → args[j]? = some v → Value.okWide Try.prog W .any base t v := hval0
  have hW' := hW
  obtain ⟨p, q, hA0, hV, rfl, hfz, hnd⟩ := hW
  have hA : DataW.TrodAll enc Try.prog W 0 (fun _ => true) true Try.f3.params.toList args.toList ds p := hA0
  rw [Try.params3] at hA hval
  obtain ⟨v0, vs0, d0, ds0, p0, q0, hargs, rfl, rfl, h0, r0⟩ := trodAll_cons hA
  obtain ⟨v1, vs1, d1, ds1, p1, q1, rfl, rfl, rfl, h1, r1⟩ := trodAll_cons r0
  obtain ⟨v2, vs2, d2, ds2, p2, q2, rfl, rfl, rfl, h2, r2⟩ := trodAll_cons r1
  obtain ⟨v3, vs3, d3, ds3, p3, q3, rfl, rfl, rfl, h3, r3⟩ := trodAll_cons r2
  obtain ⟨v4, vs4, d4, ds4, p4, q4, rfl, rfl, rfl, h4, r4⟩ := trodAll_cons r3
  obtain ⟨v5, vs5, d5, ds5, p5, q5, rfl, rfl, rfl, h5, r5⟩ := trodAll_cons r4
  obtain ⟨v6, vs6, d6, ds6, p6, q6, rfl, rfl, rfl, h6, r6⟩ := trodAll_cons r5
  obtain ⟨v7, vs7, d7, ds7, p7, q7, rfl, rfl, rfl, h7, r7⟩ := trodAll_cons r6
  obtain ⟨rfl, rfl, rfl⟩ := trodAll_nil r7
  obtain rfl : args = #[v0, v1, v2, v3, v4, v5, v6, v7] := by cases args; simp_all
  obtain ⟨rfl, rfl⟩ := trodVars_none hV
  have lt0 : ∀ x ∈ p0, x.block < W.heap.size := by obtain ⟨m, hm⟩ := h0; exact DataW.trod_lt m _ _ _ hm
  have lt1 : ∀ x ∈ p1, x.block < W.heap.size := by obtain ⟨m, hm⟩ := h1; exact DataW.trod_lt m _ _ _ hm
  have lt2 : ∀ x ∈ p2, x.block < W.heap.size := by obtain ⟨m, hm⟩ := h2; exact DataW.trod_lt m _ _ _ hm
  have lt3 : ∀ x ∈ p3, x.block < W.heap.size := by obtain ⟨m, hm⟩ := h3; exact DataW.trod_lt m _ _ _ hm
  have lt4 : ∀ x ∈ p4, x.block < W.heap.size := by obtain ⟨m, hm⟩ := h4; exact DataW.trod_lt m _ _ _ hm
  have lt5 : ∀ x ∈ p5, x.block < W.heap.size := by obtain ⟨m, hm⟩ := h5; exact DataW.trod_lt m _ _ _ hm
  have lt6 : ∀ x ∈ p6, x.block < W.heap.size := by obtain ⟨m, hm⟩ := h6; exact DataW.trod_lt m _ _ _ hm
  have lt7 : ∀ x ∈ p7, x.block < W.heap.size := by obtain ⟨m, hm⟩ := h7; exact DataW.trod_lt m _ _ _ hm
  obtain ⟨num, e0⟩ : ∃ x, v0 = .int .u64 x := by
    obtain ⟨x, hx, _⟩ := open_int Try.underlying22 (hval 0 22 v0 rfl rfl) h0
    exact ⟨x, hx⟩
  obtain ⟨a, n, cap, ss, e1, hn, hcap, hL⟩ := slice_of (hval 1 23 v1 rfl rfl) h1
  obtain ⟨mi, ni, _, e2, hin, _⟩ := map_of (hval 2 24 v2 rfl rfl) h2
  obtain ⟨ml, nl, L, e3, hlo, hk⟩ := map_of (hval 3 24 v3 rfl rfl) h3
  obtain ⟨x, e4, hx⟩ : ∃ x, v4 = .string x ∧ x.size ≤ maxLen := by
    obtain ⟨x, hx, _, _, hm⟩ := open_string Try.underlying9 (hval 4 9 v4 rfl rfl) h4
    exact ⟨x, hx, hm⟩
  obtain ⟨pp, e5⟩ : ∃ x, v5 = .int .i64 x := by
    obtain ⟨x, hx, _⟩ := open_int Try.underlying3 (hval 5 3 v5 rfl rfl) h5
    exact ⟨x, hx⟩
  obtain ⟨y, e6, hy⟩ : ∃ x, v6 = .string x ∧ x.size ≤ maxLen := by
    obtain ⟨x, hx, _, _, hm⟩ := open_string Try.underlying9 (hval 6 9 v6 rfl rfl) h6
    exact ⟨x, hx, hm⟩
  obtain ⟨qq, e7⟩ : ∃ x, v7 = .int .i64 x := by
    obtain ⟨x, hx, _⟩ := open_int Try.underlying3 (hval 7 3 v7 rfl rfl) h7
    exact ⟨x, hx⟩
  clear hA0 hval0
  have hw := walk num a n cap mi ml x y pp qq ss L ni nl W hn hcap hL hx hy hin hlo hk
  rw [← e0, ← e1, ← e2, ← e3, ← e4, ← e5, ← e6, ← e7] at hw
  refine hw.mono fun e W' ⟨he, bel⟩ => ?_
  subst he
  exact ⟨_, rfl, _, _, _, [], _, [], hW', trodAll_mk1 (shut_bool Try.underlying4 _), (trodAll_cons_mk (Below.trod laidOut (by kernel_rfl) (of_decide_eq_true (by kernel_rfl)) h0 bel lt0) (trodAll_cons_mk (Below.trod laidOut (by kernel_rfl) (of_decide_eq_true (by kernel_rfl)) h1 bel lt1) (trodAll_cons_mk (Below.trod laidOut (by kernel_rfl) (of_decide_eq_true (by kernel_rfl)) h2 bel lt2) (trodAll_cons_mk (Below.trod laidOut (by kernel_rfl) (of_decide_eq_true (by kernel_rfl)) h3 bel lt3) (trodAll_cons_mk (Below.trod laidOut (by kernel_rfl) (of_decide_eq_true (by kernel_rfl)) h4 bel lt4) (trodAll_cons_mk (Below.trod laidOut (by kernel_rfl) (of_decide_eq_true (by kernel_rfl)) h5 bel lt5) (trodAll_cons_mk (Below.trod laidOut (by kernel_rfl) (of_decide_eq_true (by kernel_rfl)) h6 bel lt6) (trodAll_cons_mk (Below.trod laidOut (by kernel_rfl) (of_decide_eq_true (by kernel_rfl)) h7 bel lt7) trodAll_mk0)))))))), rfl, bel.frame _, fun h => by cases h⟩

theorem over : Rows.fnSurvivorsInsertLiveAndLostRow.holds Try.pinned (OpenSpec.ofChange Rows.fnSurvivorsInsertLiveAndLostSpec) :=
  OpenClaim.holds_of_wide 3 Try.f3 rfl rfl rfl rfl rfl rfl rfl ⟨rfl, rfl, rfl, rfl, rfl⟩ rfl rfl rfl rfl rfl (by kernel_rfl) Try.func3 (by kernel_rfl)
    (of_decide_eq_true (by kernel_rfl)) (by unfold Func.isWrapper; first | (rw [if_pos (by decide +kernel)]; kernel_rfl) | (rw [if_neg (by decide +kernel)]; exact ⟨rfl, rfl⟩))
    (fun os started H enc _ => lifted os started H enc)

/-- THE STATEMENT -/
theorem proved : Rows.FnSurvivorsInsertLiveAndLostSaid :=
  over
end Go.Proofs.Qxb6617630a.fnSurvivorsInsertLiveAndLost
