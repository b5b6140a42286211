/-
  The contract of 'zzBytes': it returns; where it says yes the four slices are short.
-/
import Derived.Test.Qxb6616234aValidate
namespace Go.Proofs.Qxb6616234a
open Go.RowKit

def Short (e : Ending) (w w' : World) (l0 l1 l2 l3 : Nat) : Prop :=
  ∃ bb, e = .returned (.bool bb) ∧ (bb = true → l0 ≤ 1048576 ∧ l1 ≤ 1048576 ∧ l2 ≤ 1048576 ∧ l3 ≤ 1048576) ∧ Below w.heap.size w w'
theorem short_no {w w' : World} {l0 l1 l2 l3 : Nat} (h : Below w.heap.size w w') : Short (.returned (.bool false)) w w' l0 l1 l2 l3 := ⟨false, rfl, by simp, h⟩
theorem short_yes {w w' : World} {l0 l1 l2 l3 : Nat} (h0 : l0 ≤ 1048576) (h1 : l1 ≤ 1048576) (h2 : l2 ≤ 1048576) (h3 : l3 ≤ 1048576) (h : Below w.heap.size w w') : Short (.returned (.bool true)) w w' l0 l1 l2 l3 := ⟨true, rfl, fun _ => ⟨h0, h1, h2, h3⟩, h⟩

theorem Strs.at {w : World} {a : Option Addr} {len : Nat} (h : Strs w a len) {k : Nat} (hk : k < len) :
    ∃ b off s, a = some ⟨b, off, none⟩ ∧ w.cell? ⟨b, off + k, none⟩ = some (.string s) ∧ s.size ≤ 9223372036854775807 ∧ b < w.heap.size ∧ b < w.heap.size + 1 ∧ b < w.heap.size + 1 + 1 ∧ b < w.heap.size + 1 + 1 + 1 ∧ b < w.heap.size + 1 + 1 + 1 + 1 := by
  obtain ⟨b, off, ha, hc⟩ := h.2.resolve_left (by omega)
  obtain ⟨s, hs, hm⟩ := hc k hk
  have hlt : b < w.heap.size := World.block_lt_of_cell? _ _ hs
  exact ⟨b, off, s, ha, hs, hm, hlt, past hlt⟩

set_option maxRecDepth 100000 in
set_option maxHeartbeats 4000000 in
theorem bytes_any (a0 a1 a2 a3 : Option Addr) (l0 c0 l1 c1 l2 c2 l3 c3 : Nat) (x0 x1 x2 x3 x4 x5 x6 x7 x8 x9 x10 x11 x12 x13 x14 : Value) (m1 m2 m3 m4 : ByteArray) (q1 q2 : Option Addr) (w : World)
    (h0 : Strs w a0 l0) (h1 : Strs w a1 l1) (h2 : Strs w a2 l2) (h3 : Strs w a3 l3) (hq1 : ServAt w q1) (hq2 : ServAt w q2) :
    Calls Try.prog 4 #[.agg #[.slice a0 l0 c0, .slice a1 l1 c1, x0, x1], x2, .agg #[x3, .string m1, x4, x5, x6, x7], .agg #[.string m2, x8, x9, .pointer q1], x10, .agg #[.slice a2 l2 c2, .slice a3 l3 c3, x11, .string m3, x12, x13, x14, .string m4, .pointer q2]] w
      fun e w' => Short e w w' l0 l1 l2 l3 := by
  have g0 := h0.1
  have g1 := h1.1
  have g2 := h2.1
  have g3 := h3.1
  unfold maxLen at g0 g1 g2 g3
  go_enter Try.func4, Try.ntmps4
  go_wp2
  all_goals first | (go_ret; exact short_no (below4 _ _ _ _ _)) | skip
  go_loop [13, 14] (fun z i => ∃ (k : Nat) (y : Int), k ≤ l0 ∧ i = .int .i64 k ∧ z = .int .i64 y ∧ 0 ≤ y ∧ y ≤ 1048576) (fun _ i => l0 - (intOf i).toNat)
  case atStart => exact ⟨0, _, Nat.zero_le _, rfl, rfl, by omega, by omega⟩
  case round =>
    obtain ⟨k, y, hk, rfl, rfl, y0, y1⟩ := hrel
    by_cases hlt : k < l0
    · obtain ⟨b, off, s, rfl, hs, hm, b0, b1, b2, b3, b4⟩ := h0.at hlt
      go_wp2
      all_goals first | (go_ret; exact short_no (below4 _ _ _ _ _)) | skip
      go_round
      case rel => exact ⟨k + 1, _, by omega, by go_num, rfl, by omega, by omega⟩
      case measure => simp [intOf]; omega
    · have hle0 : l0 ≤ 1048576 := by omega
      go_wp2
      all_goals first | (go_ret; exact short_no (below4 _ _ _ _ _)) | skip
      go_loop [13, 15] (fun z i => ∃ (k : Nat) (y : Int), k ≤ l1 ∧ i = .int .i64 k ∧ z = .int .i64 y ∧ 0 ≤ y ∧ y ≤ 1048576) (fun _ i => l1 - (intOf i).toNat)
      case atStart => exact ⟨0, _, Nat.zero_le _, rfl, rfl, by omega, by omega⟩
      case round =>
        obtain ⟨k, y, hk, rfl, rfl, y0, y1⟩ := hrel
        by_cases hlt : k < l1
        · obtain ⟨b, off, s, rfl, hs, hm, b0, b1, b2, b3, b4⟩ := h1.at hlt
          go_wp2
          all_goals first | (go_ret; exact short_no (below4 _ _ _ _ _)) | skip
          go_round
          case rel => exact ⟨k + 1, _, by omega, by go_num, rfl, by omega, by omega⟩
          case measure => simp [intOf]; omega
        · have hle1 : l1 ≤ 1048576 := by omega
          rcases hq1 with rfl | ⟨b, off, v0, v1, s, v3, rfl, _, _, hs, _, hm⟩
          · go_wp2
            all_goals first | (go_ret; exact short_no (below4 _ _ _ _ _)) | skip
            go_loop [13, 16] (fun z i => ∃ (k : Nat) (y : Int), k ≤ l2 ∧ i = .int .i64 k ∧ z = .int .i64 y ∧ 0 ≤ y ∧ y ≤ 1048576) (fun _ i => l2 - (intOf i).toNat)
            case atStart => exact ⟨0, _, Nat.zero_le _, rfl, rfl, by omega, by omega⟩
            case round =>
              obtain ⟨k, y, hk, rfl, rfl, y0, y1⟩ := hrel
              by_cases hlt : k < l2
              · obtain ⟨b, off, s, rfl, hs, hm, b0, b1, b2, b3, b4⟩ := h2.at hlt
                go_wp2
                all_goals first | (go_ret; exact short_no (below4 _ _ _ _ _)) | skip
                go_round
                case rel => exact ⟨k + 1, _, by omega, by go_num, rfl, by omega, by omega⟩
                case measure => simp [intOf]; omega
              · have hle2 : l2 ≤ 1048576 := by omega
                go_wp2
                all_goals first | (go_ret; exact short_no (below4 _ _ _ _ _)) | skip
                go_loop [13, 17] (fun z i => ∃ (k : Nat) (y : Int), k ≤ l3 ∧ i = .int .i64 k ∧ z = .int .i64 y ∧ 0 ≤ y ∧ y ≤ 1048576) (fun _ i => l3 - (intOf i).toNat)
                case atStart => exact ⟨0, _, Nat.zero_le _, rfl, rfl, by omega, by omega⟩
                case round =>
                  obtain ⟨k, y, hk, rfl, rfl, y0, y1⟩ := hrel
                  by_cases hlt : k < l3
                  · obtain ⟨b, off, s, rfl, hs, hm, b0, b1, b2, b3, b4⟩ := h3.at hlt
                    go_wp2
                    all_goals first | (go_ret; exact short_no (below4 _ _ _ _ _)) | skip
                    go_round
                    case rel => exact ⟨k + 1, _, by omega, by go_num, rfl, by omega, by omega⟩
                    case measure => simp [intOf]; omega
                  · have hle3 : l3 ≤ 1048576 := by omega
                    rcases hq2 with rfl | ⟨b, off, v0, v1, s, v3, rfl, _, _, hs, _, hm⟩
                    · go_wp2
                      all_goals first | (go_ret; exact short_no (below4 _ _ _ _ _)) | skip
                      go_ret
                      exact short_yes (by assumption) (by assumption) (by assumption) (by assumption) (below4 _ _ _ _ _)
                    · have hlt : b < w.heap.size := World.block_lt_of_cell? _ _ hs
                      obtain ⟨b1, b2, b3, b4⟩ := past hlt
                      unfold maxLen at hm
                      go_wp2
                      all_goals first | (go_ret; exact short_no (below4 _ _ _ _ _)) | skip
                      go_ret
                      exact short_yes (by assumption) (by assumption) (by assumption) (by assumption) (below4 _ _ _ _ _)
          · have hlt : b < w.heap.size := World.block_lt_of_cell? _ _ hs
            obtain ⟨b1, b2, b3, b4⟩ := past hlt
            unfold maxLen at hm
            go_wp2
            all_goals first | (go_ret; exact short_no (below4 _ _ _ _ _)) | skip
            go_loop [13, 16] (fun z i => ∃ (k : Nat) (y : Int), k ≤ l2 ∧ i = .int .i64 k ∧ z = .int .i64 y ∧ 0 ≤ y ∧ y ≤ 1048576) (fun _ i => l2 - (intOf i).toNat)
            case atStart => exact ⟨0, _, Nat.zero_le _, rfl, rfl, by omega, by omega⟩
            case round =>
              obtain ⟨k, y, hk, rfl, rfl, y0, y1⟩ := hrel
              by_cases hlt : k < l2
              · obtain ⟨b, off, s, rfl, hs, hm, b0, b1, b2, b3, b4⟩ := h2.at hlt
                go_wp2
                all_goals first | (go_ret; exact short_no (below4 _ _ _ _ _)) | skip
                go_round
                case rel => exact ⟨k + 1, _, by omega, by go_num, rfl, by omega, by omega⟩
                case measure => simp [intOf]; omega
              · have hle2 : l2 ≤ 1048576 := by omega
                go_wp2
                all_goals first | (go_ret; exact short_no (below4 _ _ _ _ _)) | skip
                go_loop [13, 17] (fun z i => ∃ (k : Nat) (y : Int), k ≤ l3 ∧ i = .int .i64 k ∧ z = .int .i64 y ∧ 0 ≤ y ∧ y ≤ 1048576) (fun _ i => l3 - (intOf i).toNat)
                case atStart => exact ⟨0, _, Nat.zero_le _, rfl, rfl, by omega, by omega⟩
                case round =>
                  obtain ⟨k, y, hk, rfl, rfl, y0, y1⟩ := hrel
                  by_cases hlt : k < l3
                  · obtain ⟨b, off, s, rfl, hs, hm, b0, b1, b2, b3, b4⟩ := h3.at hlt
                    go_wp2
                    all_goals first | (go_ret; exact short_no (below4 _ _ _ _ _)) | skip
                    go_round
                    case rel => exact ⟨k + 1, _, by omega, by go_num, rfl, by omega, by omega⟩
                    case measure => simp [intOf]; omega
                  · have hle3 : l3 ≤ 1048576 := by omega
                    rcases hq2 with rfl | ⟨b, off, v0, v1, s, v3, rfl, _, _, hs, _, hm⟩
                    · go_wp2
                      all_goals first | (go_ret; exact short_no (below4 _ _ _ _ _)) | skip
                      go_ret
                      exact short_yes (by assumption) (by assumption) (by assumption) (by assumption) (below4 _ _ _ _ _)
                    · have hlt : b < w.heap.size := World.block_lt_of_cell? _ _ hs
                      obtain ⟨b1, b2, b3, b4⟩ := past hlt
                      unfold maxLen at hm
                      go_wp2
                      all_goals first | (go_ret; exact short_no (below4 _ _ _ _ _)) | skip
                      go_ret
                      exact short_yes (by assumption) (by assumption) (by assumption) (by assumption) (below4 _ _ _ _ _)
end Go.Proofs.Qxb6616234a
