/-
  The contracts of the functions that make memory: clones, the HLR, the serial numbers.
-/
import Derived.Test.Qxb6616234aSizes
import Derived.Deep.RegionHeld3
import Derived.Deep.QuietTactic
import Derived.BigQuiet
import Derived.BigRegion
namespace Go.Proofs.Qxb6616234a
open Go.RowKit

theorem Try.info9 : (Try.prog.info? 9).map (fun i => (i.zero, i.size, i.bytes)) = some (some (.string ByteArray.empty), 1, 16) := by kernel_rfl

set_option maxHeartbeats 1000000 in
theorem clone_any (a : Option Addr) (len cap : Nat) (w : World) (hlen : len ≤ 1048576) (hs : Strs w a len) :
    Calls Try.prog 9 #[.slice a len cap] w fun e w' => ∃ a' n c, e = .returned (.slice a' n c) ∧ Below w.heap.size w w' := by
  have hnil := fun (a : Option Addr) (n c : Nat) (w : World) => Lib.run_eql_slice_nil (P := Try.prog) w 22 9 a n c 0 0 Try.underlying22
  cases a with
  | none =>
    go_enter Try.func9, Try.ntmps9
    go_wp2
    go_ret
    exact ⟨_, _, _, rfl, Below.refl _ _⟩
  | some x =>
    obtain ⟨i0, hi, hz0, hz1, hz2⟩ := info_parts Try.info9
    obtain ⟨w1, hrun, hown, hgrow⟩ := run_make_full (P := Try.prog) w w.heap.size 22 9 i0 (.string ByteArray.empty) 1 Try.underlying22 hi hz0 hz1 .i64 .i64 len (by rw [hz2]; omega) (by unfold maxLen; omega) (Nat.le_refl _)
    have hbel : Below w.heap.size w w1 := (Below.refl _ _).grown hgrow (Nat.le_refl _) (fun k hk => by cases hk)
    have HO : Hid (∃ xs, w1.ownsRow w.heap.size 9 1 (.slice (some ⟨w.heap.size, 0, none⟩) len len) len xs) := ⟨_, hown⟩
    clear hi hz0 hz1 hz2 hown hgrow
    go_enter Try.func9, Try.ntmps9
    go_wp2
    go_loopw [4] (fun i wr => ∃ k : Nat, k ≤ len ∧ i = .int .i64 k ∧ (∃ xs, wr.ownsRow w.heap.size 9 1 (.slice (some ⟨w.heap.size, 0, none⟩) len len) len xs) ∧ Below w.heap.size w wr) (fun i _ => len - (intOf i).toNat)
    case atStart => exact ⟨0, Nat.zero_le _, rfl, HO.out, hbel⟩
    case round =>
      obtain ⟨k, hk, rfl, ⟨xs, hx⟩, hb⟩ := hrel
      clear hrun hbel hnil
      by_cases hlt : k < len
      · obtain ⟨b, off, he, hcs⟩ := hs.2.resolve_left (by omega)
        obtain ⟨s, hs1, hs2⟩ := hcs k hlt
        obtain rfl : x = ⟨b, off, none⟩ := Option.some.inj he
        have hc1 := keeps hb hs1
        have hfz := hx.frozenAt k
        obtain ⟨u, hu⟩ : ∃ u, wr.cell? ⟨w.heap.size, k, none⟩ = some u := by
          rw [hx.cellAt k (by omega)]
          have := hx.1
          exact ⟨_, List.getElem?_eq_getElem (by omega)⟩
        have HX : Hid (wr.ownsRow w.heap.size 9 1 (.slice (some ⟨w.heap.size, 0, none⟩) len len) len xs) := hx
        clear hx hs1 hs2 hcs he
        go_wp2
        go_roundw
        case rel => exact ⟨k + 1, by omega, by go_num, ⟨_, (HX.out.stored k _).1⟩, hb.setCell (Nat.le_refl _) _⟩
        case measure => simp [intOf]; omega
      · go_wp2
        go_ret
        exact ⟨_, _, _, rfl, hb⟩

set_option maxHeartbeats 1000000 in
theorem new_any (a0 a1 : Option Addr) (l0 c0 l1 c1 : Nat) (code ct : Int) (w : World) :
    Calls Try.prog 10 #[.slice a0 l0 c0, .slice a1 l1 c1, .int .u8 code, .int .i64 ct] w fun e w' => ∃ b, e = .returned (.pointer (some ⟨b, 0, none⟩)) ∧ w'.cell? ⟨b, 2, none⟩ = some (.int .u8 code) ∧ Below w.heap.size w w' := by
  have hmm := @run_makeMap Try.prog
  go_enter Try.func10, Try.ntmps10
  go_wp2
  go_ret
  exact ⟨w.heap.size + 1 + 1, rfl, by go_simp, (((Below.refl _ _).alloc (Nat.le_refl _) _).alloc (by simp) _).alloc (by simp; omega) _⟩

/-- The serial number in memory that was made at or behind block B, or none. -/
def MeidNew (B : Nat) (w : World) (p : Option Addr) (m : Option Int) : Prop :=
  (p = none ∧ m = none) ∨ ∃ b n, B ≤ b ∧ p = some ⟨b, 0, none⟩ ∧ m = some n ∧ w.cell? ⟨b, 0, none⟩ = some (.int .u64 n)
theorem MeidNew.at {B : Nat} {w : World} {p : Option Addr} {m : Option Int} (h : MeidNew B w p m) : MeidAt w p m := by
  rcases h with h | ⟨b, n, _, hp, hm, hc⟩
  · exact .inl h
  · exact .inr ⟨b, 0, n, hp, hm, hc⟩
theorem set_other {w : World} {a x : Addr} {u : Value} (h : x.block ≠ a.block) : (w.setCell a u).cell? x = w.cell? x := World.cell?_of_block (Below.heap_setCell w a u x.block h)
theorem MeidNew.set {B : Nat} {w : World} {p : Option Addr} {m : Option Int} (h : MeidNew B w p m) {a : Addr} (u : Value) (ha : a.block < B) : MeidNew B (w.setCell a u) p m := by
  rcases h with h | ⟨b, n, hb, hp, hm, hc⟩
  · exact .inl h
  · exact .inr ⟨b, n, hb, hp, hm, (set_other (by show b ≠ a.block; omega)).trans hc⟩

set_option maxHeartbeats 1000000 in
theorem meid_any (p : Option Addr) (m : Option Int) (w : World) (h : MeidAt w p m) :
    Calls Try.prog 20 #[.pointer p] w fun e w' => ∃ q, e = .returned (.pointer q) ∧ MeidNew w.heap.size w' q m ∧ Below w.heap.size w w' := by
  rcases h with ⟨rfl, rfl⟩ | ⟨b, off, n, rfl, rfl, hc⟩
  · go_enter Try.func20, Try.ntmps20
    go_wp2
    go_ret
    exact ⟨_, rfl, .inl ⟨rfl, rfl⟩, Below.refl _ _⟩
  · go_enter Try.func20, Try.ntmps20
    go_wp2
    go_ret
    refine ⟨_, rfl, .inr ⟨_, n, Nat.le_refl _, rfl, rfl, ?_⟩, ?_⟩
    · simp
    · exact below1 _ _

set_option maxHeartbeats 1000000 in
theorem serving_any (p : Option Addr) (w : World) (h : ServAt w p) :
    Calls Try.prog 21 #[.pointer p] w fun e w' => ∃ q, e = .returned (.pointer q) ∧ Below w.heap.size w w' := by
  rcases h with rfl | ⟨b, off, x0, x1, s, x3, rfl, h0, h1, h2, h3, hm⟩
  · go_enter Try.func21, Try.ntmps21
    go_wp2
    go_ret
    exact ⟨_, rfl, Below.refl _ _⟩
  · go_enter Try.func21, Try.ntmps21
    go_wp2
    go_region_held3 (fun w' => w'.cell? ⟨b, off, none⟩ = some (.int .u32 x0) ∧ w'.cell? ⟨b, off + 1, none⟩ = some (.int .u8 x1) ∧ w'.cell? ⟨b, off + 2, none⟩ = some (.string s) ∧ w'.cell? ⟨b, off + 3, none⟩ = some (.int .u32 x3)) (go_keep) (fail)
    all_goals go_wp2
    all_goals go_ret
    all_goals exact ⟨_, rfl, by repeat (first | exact Below.refl _ _ | apply Below.drew | exact below1 _ _)⟩

theorem bcell {W w1 : World} (hb : Below W.heap.size W w1) : (∀ b o, b < W.heap.size → w1.cell? ⟨b, o, none⟩ = W.cell? ⟨b, o, none⟩) ∧ (∀ b o, b < W.heap.size → w1.frozen? ⟨b, o, none⟩ = W.frozen? ⟨b, o, none⟩) :=
  ⟨fun b o h => hb.cell (p := ⟨b, o, none⟩) h, fun b o h => hb.frozen (p := ⟨b, o, none⟩) h⟩

set_option maxHeartbeats 1000000 in
theorem rn_any (esn ms q st : Int) (m : ByteArray) (p : Option Addr) (mm : Option Int) (w : World) (h : MeidAt w p mm) :
    Calls Try.prog 12 #[.agg #[.int .u32 esn, .string m, .int .u32 ms, .int .u8 q, .int .u8 st, .pointer p]] w fun e w' =>
      ∃ p', e = .returned (.agg #[.int .u32 esn, .string m, .int .u32 ms, .int .u8 q, .int .u8 st, .pointer p']) ∧ MeidAt w' p' mm ∧ Below w.heap.size w w' := by
  go_enter Try.func12, Try.ntmps12
  go_wp2
  go_region_held3 (fun w' => w'.cell? ⟨w.heap.size, 0, none⟩ = some (.int .u32 esn) ∧ w'.cell? ⟨w.heap.size, 1, none⟩ = some (.string m) ∧ w'.cell? ⟨w.heap.size, 2, none⟩ = some (.int .u32 ms) ∧ w'.cell? ⟨w.heap.size, 3, none⟩ = some (.int .u8 q) ∧ w'.cell? ⟨w.heap.size, 4, none⟩ = some (.int .u8 st) ∧ w'.cell? ⟨w.heap.size, 5, none⟩ = some (.pointer p)) (first | go_keep | (go_split_ands; refine ⟨?_, ?_, ?_, ?_, ?_, ?_⟩ <;> (rw [hc' _ _ (by simp; omega)]; first | assumption | simp [*])))
    (first | (go_at_call 20; refine (meid_any _ mm _ ?_).mono ?_; (exact h.below ((((Below.refl _ _).alloc (Nat.le_refl _) _).alloc (by simp) _).drew)); rintro e w' ⟨p', rfl, hm', hb'⟩; obtain ⟨hc', hf'⟩ := bcell hb'))
  all_goals
    have hm2 : MeidNew (w.heap.size + 2) w' p' mm := by simpa using hm'
    have hb2 : Below w.heap.size w w' := ((((Below.refl _ _).alloc (Nat.le_refl _) _).alloc (by simp) _).drew).trans (hb'.mono (by simp; omega))
    clear hm' hb' hf'
    go_wp2
    refine bodyPost_ret (v := .agg #[.int .u32 esn, .string m, .int .u32 ms, .int .u8 q, .int .u8 st, .pointer p']) (by simp [results, Try.results12, go_sem, hc']) rfl ⟨p', rfl, ?_, ?_⟩
    · exact MeidNew.at ((((((hm2.set _ (by simp)).set _ (by simp)).set _ (by simp)).set _ (by simp)).set _ (by simp)).set _ (by simp))
    · exact ((((((hb2.setCell (by simp) _).setCell (by simp) _).setCell (by simp) _).setCell (by simp) _).setCell (by simp) _).setCell (by simp) _)
end Go.Proofs.Qxb6616234a
