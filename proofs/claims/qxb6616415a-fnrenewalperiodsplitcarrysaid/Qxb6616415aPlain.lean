/-
  The plain mathematics of thirds; the contract of 'ZZrenewalPeriod'.
-/
import Derived.Test.Qxb6616415aRows
import Derived.WalkKit
import Derived.WalkSpells
import Derived.OpenShut
namespace Go.Proofs.Qxb6616415a
open Go.RowKit

/-- A third of a length, towards zero. -/
def thr (n : Int) : Int := n.tdiv 3

theorem thr_pos (n : Int) (h : 0 ≤ n) : 3 * thr n ≤ n ∧ n < 3 * thr n + 3 := by
  unfold thr
  rw [Int.tdiv_eq_ediv_of_nonneg h]
  omega
theorem thr_neg (n : Int) : thr (-n) = -thr n := by
  unfold thr
  exact Int.neg_tdiv ..
theorem thr_le (n : Int) (h : n ≤ 0) : n ≤ 3 * thr n ∧ 3 * thr n - 3 < n := by
  have h1 := thr_pos (-n) (by omega)
  rw [thr_neg] at h1
  omega

set_option maxHeartbeats 400000 in
theorem period_any (n : Int) (w : World) (h0 : -9223372036854775807 ≤ n) (h1 : n ≤ 9223372036854775807) :
    Calls Try.prog 5 #[.int .i64 n] w fun e w' => e = .returned (.int .i64 (thr n)) ∧ w = w' := by
  have hb : -9223372036854775807 ≤ n.tdiv 3 ∧ n.tdiv 3 ≤ 9223372036854775807 := by
    rcases (show 0 ≤ n ∨ n ≤ 0 from by omega) with h | h
    · have := thr_pos n h; unfold thr at this; omega
    · have := thr_le n h; unfold thr at this; omega
  obtain ⟨b0, b1⟩ := hb
  unfold thr
  go_enter Try.func5, Try.ntmps5
  go_wp2
  go_ret
  exact ⟨rfl, rfl⟩

theorem thr_bd (n B : Int) (h0 : -B ≤ n) (h1 : n ≤ B) (hB : 0 ≤ B) : -B ≤ thr n ∧ thr n ≤ B := by
  rcases (show 0 ≤ n ∨ n ≤ 0 from by omega) with h | h
  · have := thr_pos n h; omega
  · have := thr_le n h; omega
/-- Adding three times b to a same-signed a adds b to the third. -/
theorem thr_shift (a b : Int) (h : (0 ≤ a ∧ 0 ≤ b) ∨ (a ≤ 0 ∧ b ≤ 0)) : thr (a + 3 * b) = thr a + b := by
  rcases h with ⟨h1, h2⟩ | ⟨h1, h2⟩
  · have := thr_pos a h1; have := thr_pos (a + 3 * b) (by omega); omega
  · have := thr_le a h1; have := thr_le (a + 3 * b) (by omega); omega
theorem thr_three (b : Int) : thr (3 * b) = b := by
  rcases (show 0 ≤ b ∨ b ≤ 0 from by omega) with h | h
  · have := thr_pos (3 * b) (by omega); omega
  · have := thr_le (3 * b) (by omega); omega
end Go.Proofs.Qxb6616415a
