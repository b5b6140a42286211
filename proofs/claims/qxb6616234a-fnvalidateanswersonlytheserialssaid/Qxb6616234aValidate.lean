/-
  The contract of 'validate'.
-/
import Derived.Test.Qxb6616234aSub
namespace Go.Proofs.Qxb6616234a
open Go.RowKit

/-- Why the HLR denies; 0: it authorizes. -/
def den (ok : Bool) (e1 e2 : Int) (m1 m2 : Option Int) : Int :=
  if ok = false then 5 else if e2 ≠ e1 then 2 else match m1, m2 with
    | some a, some b => if b ≠ a then 2 else 0
    | _, _ => 0
/-- Is the MEID validated? -/
def vld (ok : Bool) (e1 e2 : Int) (m1 m2 : Option Int) : Bool :=
  ok && decide (e2 = e1) && match m1, m2 with
    | some a, some b => decide (b = a)
    | _, _ => false
/-- The period in memory that was made at or behind block B; none where the HLR denies. -/
def Per (B : Nat) (w : World) (p : Option Addr) (d : Int) : Prop :=
  (d ≠ 0 ∧ p = none) ∨ (d = 0 ∧ ∃ b, B ≤ b ∧ p = some ⟨b, 0, none⟩ ∧ w.cell? ⟨b, 0, none⟩ = some (.int .u8 6) ∧ w.cell? ⟨b, 1, none⟩ = some (.int .u8 0))
theorem Per.below {B : Nat} {w w' : World} {p : Option Addr} {d : Int} (h : Per B w p d) (hb : Below w.heap.size w w') : Per B w' p d := by
  rcases h with h | ⟨hd, b, hB, hp, h0, h1⟩
  · exact .inl h
  · exact .inr ⟨hd, b, hB, hp, keeps hb h0, keeps hb h1⟩
theorem Per.mono {B B' : Nat} {w : World} {p : Option Addr} {d : Int} (h : Per B w p d) (hB : B' ≤ B) : Per B' w p d := by
  rcases h with h | ⟨hd, b, hb, hp, h0, h1⟩
  · exact .inl h
  · exact .inr ⟨hd, b, by omega, hp, h0, h1⟩
theorem Per.set {B : Nat} {w : World} {p : Option Addr} {d : Int} (h : Per B w p d) {a : Addr} (u : Value) (ha : a.block < B) : Per B (w.setCell a u) p d := by
  rcases h with h | ⟨hd, b, hb, hp, h0, h1⟩
  · exact .inl h
  · exact .inr ⟨hd, b, hb, hp, (set_other (by show b ≠ a.block; omega)).trans h0, (set_other (by show b ≠ a.block; omega)).trans h1⟩

def Answer (w : World) (e : Ending) (w' : World) (code : Int) (d : Int) (v : Bool) : Prop :=
  ∃ pp, e = .returned (.agg #[.pointer pp, .int .u8 d, .bool v, .int .u8 code]) ∧ Per w.heap.size w' pp d ∧ Below w.heap.size w w'

theorem past {g n : Nat} (h : g < n) : g < n + 1 ∧ g < n + 1 + 1 ∧ g < n + 1 + 1 + 1 ∧ g < n + 1 + 1 + 1 + 1 := by omega

theorem below4 (w : World) (a b c d : Obj) : Below w.heap.size w ((((w.alloc a).alloc b).alloc c).alloc d) :=
  ((((Below.refl _ _).alloc (Nat.le_refl _) a).alloc (by simp) b).alloc (by simp; omega) c).alloc (by simp; omega) d

set_option maxHeartbeats 2000000 in
theorem validate_no (g : Nat) (code e1 a2 a3 a4 e2 : Int) (s1 s2 : ByteArray) (p1 p2 q : Option Addr) (w : World)
    (hc : w.cell? ⟨g, 2, none⟩ = some (.int .u8 code)) :
    Calls Try.prog 19 #[.pointer (some ⟨g, 0, none⟩), .agg #[.int .u32 e1, .string s1, .int .u32 a2, .int .u8 a3, .int .u8 a4, .pointer p1], .agg #[.string s2, .int .u32 e2, .pointer p2, .pointer q], .bool false] w fun e w' => Answer w e w' code 5 false := by
  have hlt : g < w.heap.size := World.block_lt_of_cell? _ _ hc
  obtain ⟨k1, k2, k3, k4⟩ := past hlt
  cases p1 <;> cases p2
  all_goals
    go_enter Try.func19, Try.ntmps19
    go_wp2
    refine bodyPost_ret (v := .agg #[.pointer none, .int .u8 5, .bool false, .int .u8 code]) (by simp [results, Try.results19, go_sem]) rfl ⟨none, rfl, .inl ⟨by omega, rfl⟩, below4 _ _ _ _ _⟩

set_option maxHeartbeats 2000000 in
theorem validate_esn (g : Nat) (code e1 a2 a3 a4 e2 : Int) (s1 s2 : ByteArray) (p1 p2 q : Option Addr) (w : World)
    (hc : w.cell? ⟨g, 2, none⟩ = some (.int .u8 code)) (he : (e2 != e1) = true) :
    Calls Try.prog 19 #[.pointer (some ⟨g, 0, none⟩), .agg #[.int .u32 e1, .string s1, .int .u32 a2, .int .u8 a3, .int .u8 a4, .pointer p1], .agg #[.string s2, .int .u32 e2, .pointer p2, .pointer q], .bool true] w fun e w' => Answer w e w' code 2 false := by
  have hlt : g < w.heap.size := World.block_lt_of_cell? _ _ hc
  obtain ⟨k1, k2, k3, k4⟩ := past hlt
  cases p1 <;> cases p2
  all_goals
    go_enter Try.func19, Try.ntmps19
    go_wp2
    refine bodyPost_ret (v := .agg #[.pointer none, .int .u8 2, .bool false, .int .u8 code]) (by simp [results, Try.results19, go_sem]) rfl ⟨none, rfl, .inl ⟨by omega, rfl⟩, below4 _ _ _ _ _⟩

set_option maxHeartbeats 2000000 in
theorem validate_lone (g : Nat) (code e1 a2 a3 a4 e2 : Int) (s1 s2 : ByteArray) (p1 p2 q : Option Addr) (w : World)
    (hc : w.cell? ⟨g, 2, none⟩ = some (.int .u8 code)) (he : (e2 != e1) = false) (hp : p1 = none ∨ p2 = none) :
    Calls Try.prog 19 #[.pointer (some ⟨g, 0, none⟩), .agg #[.int .u32 e1, .string s1, .int .u32 a2, .int .u8 a3, .int .u8 a4, .pointer p1], .agg #[.string s2, .int .u32 e2, .pointer p2, .pointer q], .bool true] w fun e w' => Answer w e w' code 0 false := by
  have hlt : g < w.heap.size := World.block_lt_of_cell? _ _ hc
  obtain ⟨k1, k2, k3, k4⟩ := past hlt
  rcases hp with rfl | rfl
  · go_enter Try.func19, Try.ntmps19
    go_wp2
    go_quiet (fail)
    go_wp2
    refine bodyPost_ret (v := .agg #[.pointer (some ⟨w.heap.size + 1 + 1 + 1 + 1, 0, none⟩), .int .u8 0, .bool false, .int .u8 code]) (by simp [results, Try.results19, go_sem]) rfl ⟨_, rfl, .inr ⟨rfl, _, (by omega), rfl, by go_simp, by go_simp⟩, ?_⟩
    exact (((((((below_drewN (below4 _ _ _ _ _) _).setCell (by dsimp only; omega) _).setCell (by dsimp only; omega) _).setCell (by dsimp only; omega) _).setCell (by dsimp only; omega) _).setCell (by dsimp only; omega) _).setCell (by dsimp only; omega) _).alloc (by simp <;> omega) _
  · cases p1
    all_goals
      go_enter Try.func19, Try.ntmps19
      go_wp2
      go_quiet (fail)
      go_wp2
      refine bodyPost_ret (v := .agg #[.pointer (some ⟨w.heap.size + 1 + 1 + 1 + 1, 0, none⟩), .int .u8 0, .bool false, .int .u8 code]) (by simp [results, Try.results19, go_sem]) rfl ⟨_, rfl, .inr ⟨rfl, _, (by omega), rfl, by go_simp, by go_simp⟩, ?_⟩
      exact (((((((below_drewN (below4 _ _ _ _ _) _).setCell (by dsimp only; omega) _).setCell (by dsimp only; omega) _).setCell (by dsimp only; omega) _).setCell (by dsimp only; omega) _).setCell (by dsimp only; omega) _).setCell (by dsimp only; omega) _).alloc (by simp <;> omega) _

end Go.Proofs.Qxb6616234a
