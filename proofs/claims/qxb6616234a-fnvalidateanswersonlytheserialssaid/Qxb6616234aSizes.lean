/-
  What the walks are told of the arguments' memory; the contracts of the functions that reckon sizes.
-/
import Derived.Test.Qxb6616234aRows
import Derived.WalkKit
import Derived.WalkSpells
import Derived.WalkLawsBesides
import Derived.OpenShut
namespace Go.Proofs.Qxb6616234a
open Go.RowKit

/-- A slice of strings that can be read. -/
def Strs (w : World) (a : Option Addr) (len : Nat) : Prop :=
  len ≤ maxLen ∧ (len = 0 ∨ ∃ b off, a = some ⟨b, off, none⟩ ∧ ∀ i, i < len → ∃ s : ByteArray, w.cell? ⟨b, off + i, none⟩ = some (.string s) ∧ s.size ≤ maxLen)
/-- A pointer to a number of 64 bits, or nil. -/
def MeidAt (w : World) (p : Option Addr) (m : Option Int) : Prop :=
  (p = none ∧ m = none) ∨ ∃ b off n, p = some ⟨b, off, none⟩ ∧ m = some n ∧ w.cell? ⟨b, off, none⟩ = some (.int .u64 n)
/-- A pointer to a serving system, or nil. -/
def ServAt (w : World) (p : Option Addr) : Prop :=
  p = none ∨ ∃ b off x0 x1 s x3, p = some ⟨b, off, none⟩ ∧ w.cell? ⟨b, off, none⟩ = some (.int .u32 x0) ∧ w.cell? ⟨b, off + 1, none⟩ = some (.int .u8 x1) ∧ w.cell? ⟨b, off + 2, none⟩ = some (.string s) ∧ w.cell? ⟨b, off + 3, none⟩ = some (.int .u32 x3) ∧ s.size ≤ maxLen

theorem keeps {w w' : World} (hb : Below w.heap.size w w') {a : Addr} {v : Value} (h : w.cell? a = some v) : w'.cell? a = some v :=
  (hb.cell (World.block_lt_of_cell? w a h)).trans h
theorem Strs.below {w w' : World} {a : Option Addr} {len : Nat} (h : Strs w a len) (hb : Below w.heap.size w w') : Strs w' a len := by
  refine ⟨h.1, ?_⟩
  rcases h.2 with h0 | ⟨b, off, ha, hc⟩
  · exact .inl h0
  · refine .inr ⟨b, off, ha, fun i hi => ?_⟩
    obtain ⟨s, hs, hm⟩ := hc i hi
    exact ⟨s, keeps hb hs, hm⟩
theorem MeidAt.below {w w' : World} {p : Option Addr} {m : Option Int} (h : MeidAt w p m) (hb : Below w.heap.size w w') : MeidAt w' p m := by
  rcases h with h | ⟨b, off, n, hp, hm, hc⟩
  · exact .inl h
  · exact .inr ⟨b, off, n, hp, hm, keeps hb hc⟩
theorem ServAt.below {w w' : World} {p : Option Addr} (h : ServAt w p) (hb : Below w.heap.size w w') : ServAt w' p := by
  rcases h with h | ⟨b, off, x0, x1, s, x3, hp, h0, h1, h2, h3, hm⟩
  · exact .inl h
  · exact .inr ⟨b, off, x0, x1, s, x3, hp, keeps hb h0, keeps hb h1, keeps hb h2, keeps hb h3, hm⟩

theorem ret_int {k : IntKind} {a b : Int} (h : a = b) : Ending.returned (.int k a) = .returned (.int k b) := by rw [h]

/-- 'zzAdd' -/
def addT (t n : Int) : Int := if 1048576 < t ∨ 1048576 < n then 1048577 else t + n
theorem addT_bd (t n : Int) (h0 : 0 ≤ t) (h1 : 0 ≤ n) : 0 ≤ addT t n ∧ addT t n ≤ 2097152 := by unfold addT; split <;> omega

set_option maxHeartbeats 400000 in
theorem add_any (t n : Int) (w : World) (h0 : 0 ≤ t) (h1 : 0 ≤ n) :
    Calls Try.prog 15 #[.int .i64 t, .int .i64 n] w fun e w' => ∃ r, e = .returned (.int .i64 r) ∧ 0 ≤ r ∧ r ≤ 2097152 ∧ w = w' := by
  by_cases ht : 1048576 < t
  · go_enter Try.func15, Try.ntmps15
    go_wp2
    go_ret
    exact ⟨1048577, rfl, by omega, by omega, rfl⟩
  · by_cases hn : 1048576 < n
    · have hd : decide (1048576 < t) = false := by simpa using ht
      go_enter Try.func15, Try.ntmps15
      go_wp2
      go_ret
      exact ⟨1048577, rfl, by omega, by omega, rfl⟩
    · have hd : decide (1048576 < t) = false := by simpa using ht
      have hd2 : decide (1048576 < n) = false := by simpa using hn
      have k1 : t ≤ 1048576 := by omega
      have k2 : n ≤ 1048576 := by omega
      clear ht hn
      go_enter Try.func15, Try.ntmps15
      go_wp2
      go_ret
      exact ⟨t + n, rfl, by omega, by omega, rfl⟩

set_option maxHeartbeats 1000000 in
theorem sizeStrings_any (t : Int) (a : Option Addr) (len cap : Nat) (w : World) (h0 : 0 ≤ t) (hs : Strs w a len) :
    Calls Try.prog 16 #[.int .i64 t, .slice a len cap] w fun e w' => ∃ r, e = .returned (.int .i64 r) ∧ 0 ≤ r ∧ r ≤ 2097152 ∧ w = w' := by
  obtain ⟨hm, hc⟩ := hs
  unfold maxLen at hm
  go_enter Try.func16, Try.ntmps16
  go_wp2_with (go_at_call 15; refine (add_any _ _ _ (by omega) (by omega)).mono ?_; rintro e w' ⟨r, rfl, r0, r1, rfl⟩)
  go_loop [0, 5] (fun x i => ∃ (k : Nat) (y : Int), k ≤ len ∧ i = .int .i64 k ∧ x = .int .i64 y ∧ 0 ≤ y ∧ y ≤ 2097152) (fun _ i => len - (intOf i).toNat)
  case atStart => exact ⟨0, r, Nat.zero_le _, rfl, rfl, r0, r1⟩
  case round =>
    obtain ⟨k, y, hk, rfl, rfl, y0, y1⟩ := hrel
    by_cases hlt : k < len
    · obtain ⟨b, off, rfl, hcs⟩ := hc.resolve_left (by omega)
      obtain ⟨s, hs1, hs2⟩ := hcs k hlt
      unfold maxLen at hs2
      clear hc hcs
      by_cases hbig : 1048576 < y
      · go_wp2
        go_ret
        exact ⟨y, rfl, y0, y1, rfl⟩
      · have hd : decide (1048576 < y) = false := by simpa using hbig
        go_wp2_with (go_at_call 15; refine (add_any _ _ _ (by omega) (by omega)).mono ?_; rintro e w' ⟨r, rfl, r0, r1, rfl⟩)
        go_round
        case rel => exact ⟨k + 1, _, by omega, by go_num, rfl, by assumption, by assumption⟩
        case measure => simp [intOf]; omega
    · go_wp2
      go_ret
      exact ⟨y, rfl, y0, y1, rfl⟩

set_option maxHeartbeats 1000000 in
theorem sizeServing_any (t : Int) (p : Option Addr) (w : World) (h0 : 0 ≤ t) (hs : ServAt w p) :
    Calls Try.prog 17 #[.int .i64 t, .pointer p] w fun e w' => ∃ r, e = .returned (.int .i64 r) ∧ 0 ≤ r ∧ r ≤ 2097152 ∧ w = w' := by
  rcases hs with rfl | ⟨b, off, x0, x1, s, x3, rfl, c0, c1, c2, c3, hm⟩
  · go_enter Try.func17, Try.ntmps17
    go_wp2_with (go_at_call 15; refine (add_any _ _ _ (by omega) (by omega)).mono ?_; rintro e w' ⟨r, rfl, r0, r1, rfl⟩)
    go_ret
    exact ⟨_, rfl, by assumption, by assumption, rfl⟩
  · unfold maxLen at hm
    clear c0 c1 c3
    go_enter Try.func17, Try.ntmps17
    go_wp2_with (go_at_call 15; refine (add_any _ _ _ (by omega) (by omega)).mono ?_; rintro e w' ⟨r, rfl, r0, r1, rfl⟩)
    go_ret
    exact ⟨_, rfl, by assumption, by assumption, rfl⟩

theorem below1 (w : World) (o : Obj) : Below w.heap.size w (w.alloc o) := (Below.refl _ _).alloc (Nat.le_refl _) _

set_option maxHeartbeats 1000000 in
theorem sizeCfg_any (t : Int) (a0 a1 : Option Addr) (l0 c0 l1 c1 : Nat) (x y : Value) (w : World) (h0 : 0 ≤ t) (hs0 : Strs w a0 l0) (hs1 : Strs w a1 l1) :
    Calls Try.prog 8 #[.int .i64 t, .agg #[.slice a0 l0 c0, .slice a1 l1 c1, x, y]] w fun e w' => ∃ r, e = .returned (.int .i64 r) ∧ 0 ≤ r ∧ r ≤ 2097152 ∧ Below w.heap.size w w' := by
  go_enter Try.func8, Try.ntmps8
  go_wp2_with (first | (go_at_call 15; refine (add_any _ _ _ (by omega) (by omega)).mono ?_; rintro e w' ⟨r, rfl, r0, r1, rfl⟩) | (go_at_call 16; refine (sizeStrings_any _ _ _ _ _ (by omega) (by first | exact hs0.below (below1 _ _) | exact hs1.below (below1 _ _))).mono ?_; rintro e w' ⟨r, rfl, r0, r1, rfl⟩))
  go_ret
  exact ⟨_, rfl, by assumption, by assumption, below1 _ _⟩

set_option maxHeartbeats 1000000 in
theorem sizeRN_any (t : Int) (x0 x2 x3 x4 : Value) (m : ByteArray) (p : Option Addr) (w : World) (h0 : 0 ≤ t) :
    Calls Try.prog 7 #[.int .i64 t, .agg #[x0, .string m, x2, x3, x4, .pointer p]] w fun e w' => ∃ r, e = .returned (.int .i64 r) ∧ 0 ≤ r ∧ r ≤ 2097152 ∧ Below w.heap.size w w' := by
  cases p
  all_goals
    go_enter Try.func7, Try.ntmps7
    go_wp2_with (go_at_call 15; refine (add_any _ _ _ (by omega) (by omega)).mono ?_; rintro e w' ⟨r, rfl, r0, r1, rfl⟩)
    go_ret
    exact ⟨_, rfl, by assumption, by assumption, below1 _ _⟩

set_option maxHeartbeats 1000000 in
theorem sizeSub_any (t : Int) (x1 : Value) (m : ByteArray) (p q : Option Addr) (w : World) (h0 : 0 ≤ t) (hq : ServAt w q) :
    Calls Try.prog 6 #[.int .i64 t, .agg #[.string m, x1, .pointer p, .pointer q]] w fun e w' => ∃ r, e = .returned (.int .i64 r) ∧ 0 ≤ r ∧ r ≤ 2097152 ∧ Below w.heap.size w w' := by
  cases p
  all_goals
    go_enter Try.func6, Try.ntmps6
    go_wp2_with (first | (go_at_call 15; refine (add_any _ _ _ (by omega) (by omega)).mono ?_; rintro e w' ⟨r, rfl, r0, r1, rfl⟩) | (go_at_call 17; refine (sizeServing_any _ _ _ (by omega) (by exact hq.below (below1 _ _))).mono ?_; rintro e w' ⟨r, rfl, r0, r1, rfl⟩))
    go_ret
    exact ⟨_, rfl, by assumption, by assumption, below1 _ _⟩

set_option maxHeartbeats 1000000 in
theorem sizeAlt_any (t : Int) (a0 a1 : Option Addr) (l0 c0 l1 c1 : Nat) (x2 x4 x5 x6 : Value) (m3 m7 : ByteArray) (q : Option Addr) (w : World) (h0 : 0 ≤ t) (hs0 : Strs w a0 l0) (hs1 : Strs w a1 l1) (hq : ServAt w q) :
    Calls Try.prog 5 #[.int .i64 t, .agg #[.slice a0 l0 c0, .slice a1 l1 c1, x2, .string m3, x4, x5, x6, .string m7, .pointer q]] w fun e w' => ∃ r, e = .returned (.int .i64 r) ∧ 0 ≤ r ∧ r ≤ 2097152 ∧ Below w.heap.size w w' := by
  go_enter Try.func5, Try.ntmps5
  go_wp2_with (first | (go_at_call 15; refine (add_any _ _ _ (by omega) (by omega)).mono ?_; rintro e w' ⟨r, rfl, r0, r1, rfl⟩) | (go_at_call 16; refine (sizeStrings_any _ _ _ _ _ (by omega) (by first | exact hs0.below (below1 _ _) | exact hs1.below (below1 _ _))).mono ?_; rintro e w' ⟨r, rfl, r0, r1, rfl⟩) | (go_at_call 17; refine (sizeServing_any _ _ _ (by omega) (by exact hq.below (below1 _ _))).mono ?_; rintro e w' ⟨r, rfl, r0, r1, rfl⟩))
  go_ret
  exact ⟨_, rfl, by assumption, by assumption, below1 _ _⟩
end Go.Proofs.Qxb6616234a
