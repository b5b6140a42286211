/-
  PROOF OF 'Rows.FnFoldedSettlesAndLeavesLettersSmallSaid', on the frame that proof-skeleton.mjs wrote for this function; the walk is ours; the world behind the call is told by 'Below' (the row of a conversion bears a mark, which 'Grown' does not allow).
-/
import Derived.Test.Qxb6616198aRows
import Derived.Test.Qxb6616198aCalls
import Derived.WalkKit
import Derived.ProofKit
import Derived.OpenShut
import Derived.ShutString
import Derived.ChangeOld
import Derived.Below
import Derived.Deep.QuietTactic
import Derived.BigQuiet
namespace Go.Proofs.Qxb6616198a.fnFoldedSettlesAndLeavesLettersSmall
open Go.ChangeShapes Go.WideShapes Go.ChangeAt Go.RowKit
open Go.ChangeMaps (open_string shut_string)
set_option linter.unusedVariables false      -- a walk need not use every 'w<i>' (that an integer argument fits its kind)

theorem own : ownKnob Try.prog.godebug = none := by kernel_rfl

/-! ### THE PLAIN LAW of a round -/
theorem ways (f : Bool) (s r : ByteArray) (hr : r = foldS f s) (k : Nat) (h : k < s.size) (h' : k < r.size) :
    (f = true ∧ 65 ≤ (s[k].toNat : Int) ∧ (s[k].toNat : Int) ≤ 90 ∧ smallB (r[k].toNat : Int) = true ∧ smallB (s[k].toNat : Int) = false) ∨
    (∃ b, f = false ∧ smallB (r[k].toNat : Int) = b ∧ smallB (s[k].toNat : Int) = b ∧ ((r[k].toNat : Int) != (s[k].toNat : Int)) = false) ∨
    (∃ b, f = true ∧ ((s[k].toNat : Int) < 65 ∨ (65 ≤ (s[k].toNat : Int) ∧ 90 < (s[k].toNat : Int))) ∧ smallB (r[k].toNat : Int) = b ∧ smallB (s[k].toNat : Int) = b ∧ ((r[k].toNat : Int) != (s[k].toNat : Int)) = false) := by
  subst hr
  have e := foldS_at f s k h h'
  rw [e]
  cases f
  · right; left; exact ⟨_, rfl, rfl, rfl, by simp⟩
  · by_cases hc : 65 ≤ (s[k].toNat : Int) ∧ (s[k].toNat : Int) ≤ 90
    · left
      rw [if_pos rfl]
      unfold lowN smallB
      rw [if_pos hc]
      exact ⟨rfl, hc.1, hc.2, by simp; omega, by simp; omega⟩
    · right; right
      rw [if_pos rfl]
      unfold lowN
      rw [if_neg hc]
      exact ⟨_, rfl, by omega, rfl, rfl, by simp⟩

/-! ### STEP 1: THE WALK -/
set_option maxHeartbeats 1000000 in
theorem walk (a0 : Bool) (a1 : ByteArray) (w : World) :
    Calls Try.prog 5 #[.bool a0, .string a1] w fun e w' => e = .returned (.bool true) ∧ Below w.heap.size w w' := by
  by_cases hbig : 1048576 < a1.size
  · go_enter Try.func5, Try.ntmps5
    go_wp2_with (go_at_call 12; refine (bytes_no _ _ _ hbig).mono ?_; rintro e w' ⟨rfl, rfl⟩)
    go_ret
    exact ⟨rfl, Below.refl _ _⟩
  · have hs : a1.size ≤ 1048576 := by omega
    obtain ⟨r, hr⟩ : ∃ r, r = foldS a0 a1 := ⟨_, rfl⟩
    have hrs : r.size = a1.size := by rw [hr]; exact foldS_size _ _
    have hrr : r = foldS a0 r := by rw [hr]; exact (foldS_idem _ _).symm
    have HRS : Hid (r.size = a1.size) := hrs
    have HR : Hid (r = foldS a0 a1) := hr
    have HRR : Hid (r = foldS a0 r) := hrr
    have hrb : r.size ≤ 1048576 := by omega
    have hne : ((r.size : Int) != (a1.size : Int)) = false := by simp [hrs]
    clear hr hrs hrr hbig
    go_enter Try.func5, Try.ntmps5
    go_wp2_with (first | (go_at_call 12; refine (bytes_yes _ _ _ hs).mono ?_; rintro e w' ⟨rfl, rfl⟩) | (go_at_call 9; refine (newGlob_any _ _).mono ?_; rintro e w1 ⟨b, rfl, hc1, hb1⟩))
    refine (folded_any b a0 a1 r _ HR.out hs hc1).mono ?_
    rintro e w2 ⟨rfl, hb2⟩
    have hlt1 := World.block_lt_of_cell? _ _ hc1
    have hc2 : w2.cell? ⟨b, 1, none⟩ = some (.bool a0) := (hb2.cell (p := ⟨b, 1, none⟩) hlt1).trans hc1
    have hb2' : Below w.heap.size w w2 := hb1.trans (hb2.mono hb1.size)
    clear hc1 hb1 hb2 hlt1
    go_wp2_with fail
    refine (folded_any b a0 r r _ HRR.out hrb hc2).mono ?_
    rintro e w3 ⟨rfl, hb3⟩
    have hbel : Below w.heap.size w w3 := hb2'.trans (hb3.mono hb2'.size)
    clear hc2 hb2' hb3
    go_wp2
    go_loopw [7] (fun i wr => ∃ k : Nat, k ≤ a1.size ∧ i = .int .i64 k ∧ Below w.heap.size w wr) (fun i _ => a1.size - (intOf i).toNat)
    case atStart => exact ⟨0, Nat.zero_le _, rfl, hbel⟩
    case round =>
      obtain ⟨k, hk, rfl, hb⟩ := hrel
      clear hbel
      by_cases hlt : k < a1.size
      · have hkr : k < r.size := by have := HRS.out; omega
        obtain ⟨x0, x1⟩ := u8_bd a1[k]
        obtain ⟨y0, y1⟩ := u8_bd r[k]
        rcases ways a0 a1 r HR.out k hlt hkr with ⟨hf, h1, h2, h3, h4⟩ | ⟨b, hf, h2, h3, h5⟩ | ⟨b, hf, h0, h2, h3, h5⟩
        · subst hf
          go_wp2
          go_region
          all_goals
            go_wp2_with (go_at_call 6; refine (small_any _ _).mono ?_; rintro e w' ⟨rfl, rfl⟩)
          all_goals
            go_roundw
            case rel => exact ⟨k + 1, by omega, by go_num, by repeat (first | exact hb | apply Below.drew)⟩
            case measure => simp [intOf]; omega
        · subst hf
          cases b
          all_goals
            go_wp2
            go_region
            all_goals
              go_wp2_with (go_at_call 6; refine (small_any _ _).mono ?_; rintro e w' ⟨rfl, rfl⟩)
            all_goals
              go_roundw
              case rel => exact ⟨k + 1, by omega, by go_num, by repeat (first | exact hb | apply Below.drew)⟩
              case measure => simp [intOf]; omega
        · subst hf
          cases b
          all_goals
            rcases h0 with h0 | h0
            all_goals
              go_wp2
              go_region
              all_goals
                go_wp2_with (go_at_call 6; refine (small_any _ _).mono ?_; rintro e w' ⟨rfl, rfl⟩)
              all_goals
                go_roundw
                case rel => exact ⟨k + 1, by omega, by go_num, by repeat (first | exact hb | apply Below.drew)⟩
                case measure => simp [intOf]; omega
      · go_wp2
        go_ret
        exact ⟨rfl, hb⟩

/-! ### THE ROW's STEP: WRITTEN OUT: LEAVE IT -/
set_option maxRecDepth 100000 in
theorem lifted (os : Os) (started : os.Started) (H : Type) (enc : TypeId × Value → H) :
    ReturnsInHanded {} Try.checked os 5 .any (Rows.fnFoldedSettlesAndLeavesLettersSmallSpec.pre6 enc Try.prog Try.f5 Rows.fnFoldedSettlesAndLeavesLettersSmallRow.domain false) (Rows.fnFoldedSettlesAndLeavesLettersSmallSpec.post enc Try.prog Try.f5 false true false false) := by
  refine returnsInHanded_of_change (C := Try.checked) own started (by kernel_rfl) Try.func5
    (ChangeSpec.witness6 (enc := enc) (C := Try.checked) false ⟨#[], #[.bool false, .string ByteArray.empty], []⟩ 8 (by kernel_rfl) (by kernel_rfl) (by kernel_rfl) (by kernel_rfl)) ?_
  intro W base args ds gs before hval0 hW hcnd _
  have hval : ∀ (j : Nat) t v, Try.f5.params[j]? = some t → args[j]? = some v → Value.okWide Try.prog W .any base t v := hval0
  have hW' := hW
  obtain ⟨p, q, hA0, hV, rfl, hfz, hnd⟩ := hW
  have hA : DataW.TrodAll enc Try.prog W 0 (fun _ => true) true Try.f5.params.toList args.toList ds p := hA0
  rw [Try.params5] at hA hval
  obtain ⟨v0, vs0, d0, ds0, p0, q0, hargs, rfl, rfl, h0, r0⟩ := trodAll_cons hA
  obtain ⟨v1, vs1, d1, ds1, p1, q1, rfl, rfl, rfl, h1, r1⟩ := trodAll_cons r0
  obtain ⟨rfl, rfl, rfl⟩ := trodAll_nil r1
  obtain rfl : args = #[v0, v1] := by cases args; simp_all
  obtain ⟨rfl, rfl⟩ := trodVars_none hV
  obtain ⟨a0, rfl, rfl, rfl⟩ := open_bool Try.underlying4 (hval 0 4 v0 rfl rfl) h0
  obtain ⟨a1, rfl, rfl, rfl, w1⟩ := open_string Try.underlying9 (hval 1 9 v1 rfl rfl) h1
  clear hA0 hval0
  simp only [List.append_nil] at hW'
  refine (walk a0 a1 W).mono fun e W' ⟨he, hg⟩ => ?_
  subst he
  exact ⟨_, rfl, _, _, _, [], _, [], hW', trodAll_mk1 (shut_bool Try.underlying4 _), (trodAll_cons_mk (shut_bool Try.underlying4 _) (trodAll_cons_mk (shut_string Try.underlying9 w1) trodAll_mk0)), rfl, hg.frame _, fun h => by cases h⟩

theorem over : Rows.fnFoldedSettlesAndLeavesLettersSmallRow.holds Try.pinned (OpenSpec.ofChange Rows.fnFoldedSettlesAndLeavesLettersSmallSpec) :=
  OpenClaim.holds_of_wide 5 Try.f5 rfl rfl rfl rfl rfl rfl rfl ⟨rfl, rfl, rfl, rfl, rfl⟩ rfl rfl rfl rfl rfl (by kernel_rfl) Try.func5 (by kernel_rfl)
    (of_decide_eq_true (by kernel_rfl)) (by unfold Func.isWrapper; first | (rw [if_pos (by decide +kernel)]; kernel_rfl) | (rw [if_neg (by decide +kernel)]; exact ⟨rfl, rfl⟩))
    (fun os started H enc _ => lifted os started H enc)

/-- ████ THE STATEMENT ████ -/
theorem proved : Rows.FnFoldedSettlesAndLeavesLettersSmallSaid :=
  over
end Go.Proofs.Qxb6616198a.fnFoldedSettlesAndLeavesLettersSmall
