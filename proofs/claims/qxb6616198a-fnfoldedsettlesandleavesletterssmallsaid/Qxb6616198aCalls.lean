/-
  The callees' contracts.
-/
import Derived.Test.Qxb6616198aPlain
import Derived.WalkSpells
import Derived.OpenShut
namespace Go.Proofs.Qxb6616198a
open Go.RowKit

set_option maxHeartbeats 400000 in
theorem lower_any (n : Int) (w : World) (h0 : 0 ≤ n) (h1 : n ≤ 255) :
    Calls Try.prog 14 #[.int .i32 n] w fun e w' => e = .returned (.int .i32 (lowN n)) ∧ w = w' := by
  unfold lowN
  by_cases h : 65 ≤ n ∧ n ≤ 90
  · rw [if_pos h]
    have hq : n - 65 + 97 = n + 32 := by omega
    go_enter Try.func14, Try.ntmps14
    go_wp2
    go_ret
    exact ⟨rfl, rfl⟩
  · rw [if_neg h]
    rcases (show n < 65 ∨ (65 ≤ n ∧ 90 < n) from by omega) with g | g
    all_goals
      clear h
      go_enter Try.func14, Try.ntmps14
      go_wp2
      go_ret
      exact ⟨rfl, rfl⟩

set_option maxHeartbeats 400000 in
theorem small_any (n : Int) (w : World) :
    Calls Try.prog 6 #[.int .i32 n] w fun e w' => e = .returned (.bool (smallB n)) ∧ w = w' := by
  rcases (show n < 97 ∨ (97 ≤ n ∧ n ≤ 122) ∨ (97 ≤ n ∧ 122 < n) from by omega) with g | g | g
  · have e : smallB n = false := by unfold smallB; simp; omega
    rw [e]; clear e
    go_enter Try.func6, Try.ntmps6
    go_wp2
    go_ret
    exact ⟨rfl, rfl⟩
  · have e : smallB n = true := by unfold smallB; simp; omega
    rw [e]; clear e
    go_enter Try.func6, Try.ntmps6
    go_wp2
    go_ret
    exact ⟨rfl, rfl⟩
  · have e : smallB n = false := by unfold smallB; simp; omega
    have hd : decide (n ≤ 122) = false := by simp; omega
    rw [e]; clear e
    go_enter Try.func6, Try.ntmps6
    go_wp2
    go_ret
    exact ⟨rfl, rfl⟩

set_option maxHeartbeats 400000 in
theorem bytes_no (f : Bool) (s : ByteArray) (w : World) (hs : 1048576 < s.size) :
    Calls Try.prog 12 #[.bool f, .string s] w fun e w' => e = .returned (.bool false) ∧ w = w' := by
  go_enter Try.func12, Try.ntmps12
  go_wp2
  go_ret
  exact ⟨rfl, rfl⟩

set_option maxHeartbeats 400000 in
theorem bytes_yes (f : Bool) (s : ByteArray) (w : World) (hs : s.size ≤ 1048576) :
    Calls Try.prog 12 #[.bool f, .string s] w fun e w' => e = .returned (.bool true) ∧ w = w' := by
  go_enter Try.func12, Try.ntmps12
  go_wp2
  go_ret
  exact ⟨rfl, rfl⟩

set_option maxHeartbeats 400000 in
theorem folded_no (b : Nat) (s : ByteArray) (w : World) (hc : w.cell? ⟨b, 1, none⟩ = some (.bool false)) :
    Calls Try.prog 10 #[.pointer (some ⟨b, 0, none⟩), .string s] w fun e w' => e = .returned (.string s) ∧ w = w' := by
  go_enter Try.func10, Try.ntmps10
  go_wp2
  go_ret
  exact ⟨rfl, rfl⟩

set_option maxHeartbeats 400000 in
theorem folded_yes (b : Nat) (s : ByteArray) (w : World) (hs : s.size ≤ 1048576) (hc : w.cell? ⟨b, 1, none⟩ = some (.bool true)) :
    Calls Try.prog 10 #[.pointer (some ⟨b, 0, none⟩), .string s] w fun e w' => e = .returned (.string (foldS true s)) ∧ Below w.heap.size w w' := by
  obtain ⟨cap, M, W1, hconv, hrow, hbel⟩ := conv_start w s
  go_enter Try.func10, Try.ntmps10
  go_wp2
  go_loopw [18] (fun i wr => ∃ k : Nat, k ≤ s.size ∧ i = .int .i64 k ∧ Row w.heap.size s M k wr ∧ Below w.heap.size w wr) (fun i _ => s.size - (intOf i).toNat)
  case atStart => exact ⟨0, Nat.zero_le _, rfl, hrow, hbel⟩
  case round =>
    obtain ⟨k, hk, rfl, hr, hb⟩ := hrel
    clear hconv hrow hbel
    by_cases hlt : k < s.size
    · have hst := row_step hr hlt
      obtain ⟨hcl, hfz⟩ := row_cell hr hlt
      obtain ⟨b0, b1⟩ := byteAt_bd s k
      obtain ⟨l0, l1⟩ := lowN_bd _ b0 b1
      have HR : Hid (Row w.heap.size s M (k + 1) (wr.setCell ⟨w.heap.size, k, none⟩ (.int .u8 (lowN (byteAt s k))))) := hst
      clear hst hr
      go_wp2_with (go_at_call 14; refine (lower_any _ _ (by omega) (by omega)).mono ?_; rintro e w' ⟨rfl, rfl⟩)
      go_roundw
      case rel => exact ⟨k + 1, by omega, by go_num, HR.out, hb.setCell (Nat.le_refl _) _⟩
      case measure => simp [intOf]; omega
    · have hkk : k = s.size := by omega
      have hback := row_end (wr := wr) cap (hkk ▸ hr)
      clear hkk
      go_wp2
      go_ret
      exact ⟨rfl, hb⟩

set_option maxHeartbeats 400000 in
theorem newGlob_any (f : Bool) (w : World) :
    Calls Try.prog 9 #[.bool f] w fun e w' => ∃ b, e = .returned (.pointer (some ⟨b, 0, none⟩)) ∧ w'.cell? ⟨b, 1, none⟩ = some (.bool f) ∧ Below w.heap.size w w' := by
  go_enter Try.func9, Try.ntmps9
  go_wp2
  go_ret
  exact ⟨w.heap.size, rfl, by simp, (Below.refl _ _).alloc (Nat.le_refl _) _⟩

theorem folded_any (b : Nat) (f : Bool) (s r : ByteArray) (w : World) (hr : r = foldS f s) (hs : s.size ≤ 1048576) (hc : w.cell? ⟨b, 1, none⟩ = some (.bool f)) :
    Calls Try.prog 10 #[.pointer (some ⟨b, 0, none⟩), .string s] w fun e w' => e = .returned (.string r) ∧ Below w.heap.size w w' := by
  subst hr
  cases f
  · exact (folded_no b s w hc).mono fun e w' h => ⟨h.1, by rw [← h.2]; exact Below.refl _ _⟩
  · exact folded_yes b s w hs hc

end Go.Proofs.Qxb6616198a
