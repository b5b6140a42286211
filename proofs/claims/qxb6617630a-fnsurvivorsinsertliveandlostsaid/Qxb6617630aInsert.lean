/-
  The contract of 'insertAt'.
-/
import Derived.Test.Qxb6617630aPlain
import Derived.WalkSpells
import Derived.WalkLawsBesides
import Derived.OpenShut
namespace Go.Proofs.Qxb6617630a
open Go.RowKit

theorem Try.info9 : (Try.prog.info? 9).map (fun i => (i.zero, i.size, i.bytes)) = some (some (.string ByteArray.empty), 1, 16) := by kernel_rfl

/-- The new row, block N: of its n cells the first m hold what T says. -/
def Own (N n : Nat) (T : List ByteArray) (m : Nat) (wr : World) : Prop :=
  ∃ xs : List Value, wr.ownsRow N 9 1 (.slice (some ⟨N, 0, none⟩) n n) n xs ∧ ∀ j, j < m → xs[j]? = some (.string (at' T j))
theorem Own.cell {N n : Nat} {T : List ByteArray} {m : Nat} {wr : World} (h : Own N n T m wr) (k : Nat) (hk : k < n) : (∃ u, wr.cell? ⟨N, k, none⟩ = some u) ∧ wr.frozen? ⟨N, k, none⟩ = false := by
  obtain ⟨xs, hx, _⟩ := h
  refine ⟨?_, hx.frozenAt k⟩
  rw [hx.cellAt k (by omega)]
  have := hx.1
  exact ⟨_, List.getElem?_eq_getElem (by omega)⟩
theorem Own.step {N n : Nat} {T : List ByteArray} {m : Nat} {wr : World} (h : Own N n T m wr) (hm : m < n) (s : ByteArray) (hs : at' T m = s) : Own N n T (m + 1) (wr.setCell ⟨N, m, none⟩ (.string s)) := by
  obtain ⟨xs, hx, hj⟩ := h
  have hl := hx.1
  refine ⟨xs.set m (.string s), (hx.stored m _).1, fun j hj' => ?_⟩
  rw [List.getElem?_set]
  by_cases e : m = j
  · subst e
    rw [if_pos rfl, if_pos (by omega), hs]
  · rw [if_neg e]
    exact hj j (by omega)
theorem Own.done {N n : Nat} {T : List ByteArray} {wr : World} (h : Own N n T n wr) (hT : T.length = n) (hs : ∀ s ∈ T, s.size ≤ maxLen) : Lst wr (some ⟨N, 0, none⟩) T := by
  obtain ⟨xs, hx, hj⟩ := h
  refine ⟨hs, .inr ⟨N, 0, rfl, fun i hi => ?_⟩⟩
  rw [Nat.zero_add, hx.cellAt i (by omega)]
  exact hj i (by omega)

theorem ins_sizes {ss : List ByteArray} {p : Nat} {x : ByteArray} (h : ∀ s ∈ ss, s.size ≤ maxLen) (hx : x.size ≤ maxLen) : ∀ s ∈ ins ss p x, s.size ≤ maxLen := by
  intro s hs
  unfold ins at hs
  rw [List.mem_append, List.mem_cons] at hs
  rcases hs with hs | rfl | hs
  · exact h s (List.mem_of_mem_take hs)
  · exact hx
  · exact h s (List.mem_of_mem_drop hs)

set_option maxHeartbeats 1000000 in
theorem insert_any (a : Option Addr) (n cap p : Nat) (x : ByteArray) (ss : List ByteArray) (w : World) (hn : ss.length = n) (hb : n ≤ 10000) (hp : p ≤ n) (hL : Lst w a ss) (hx : x.size ≤ maxLen) :
    Calls Try.prog 4 #[.slice a n cap, .int .i64 p, .string x] w fun e w' => ∃ g, e = .returned (.slice (some ⟨g, 0, none⟩) ((n + 1 : Nat)) (n + 1)) ∧ Lst w' (some ⟨g, 0, none⟩) (ins ss p x) ∧ Below w.heap.size w w' := by
  obtain ⟨i0, hi, hz0, hz1, hz2⟩ := info_parts Try.info9
  obtain ⟨w1, hrun, hown, hgrow⟩ := run_make_full (P := Try.prog) w w.heap.size 23 9 i0 (.string ByteArray.empty) 1 Try.underlying23 hi hz0 hz1 .i64 .i64 (n + 1) (by rw [hz2]; omega) (by unfold maxLen; omega) (Nat.le_refl _)
  have hbel : Below w.heap.size w w1 := (Below.refl _ _).grown hgrow (Nat.le_refl _) (fun k hk => by cases hk)
  have HO : Hid (Own w.heap.size (n + 1) (ins ss p x) 0 w1) := ⟨_, hown, fun j hj => absurd hj (Nat.not_lt_zero j)⟩
  have ec : ((n + 1 : Nat) : Int) = (n : Int) + 1 := by omega
  rw [ec] at hrun
  have HN : Hid (ss.length = n) := hn
  have hl := ins_length ss p x (by omega)
  have HT : Hid ((ins ss p x).length = ss.length + 1) := hl
  have HZ := ins_sizes (p := p) hL.1 hx
  clear hi hz0 hz1 hz2 hown hgrow ec hn hl
  go_enter Try.func4, Try.ntmps4
  go_wp2
  go_loopw [8] (fun i wr => ∃ k : Nat, k ≤ p ∧ i = .int .i64 k ∧ Own w.heap.size (n + 1) (ins ss p x) k wr ∧ Below w.heap.size w wr) (fun i _ => p - (intOf i).toNat)
  case atStart => exact ⟨0, Nat.zero_le _, rfl, HO.out, hbel⟩
  case round =>
    obtain ⟨k, hk, rfl, ho, hbw⟩ := hrel
    clear hrun hbel
    by_cases hlt : k < p
    · obtain ⟨b, off, rfl, hc0, _, _⟩ := hL.get (k := k) (by have := HN.out; omega)
      have hc := keeps hbw hc0
      obtain ⟨⟨u, hu⟩, hf⟩ := ho.cell k (by omega)
      have HS : Hid (Own w.heap.size (n + 1) (ins ss p x) (k + 1) (wr.setCell ⟨w.heap.size, k, none⟩ (.string (at' ss k)))) := ho.step (by omega) _ (ins_lt ss p x (by have := HN.out; omega) k hlt)
      clear hc0 ho
      go_wp2
      go_roundw
      case rel => exact ⟨k + 1, by omega, by go_num, HS.out, hbw.setCell (Nat.le_refl _) _⟩
      case measure => simp [intOf]; omega
    · obtain ⟨⟨u, hu⟩, hf⟩ := ho.cell p (by omega)
      have hkp : k = p := by omega
      have HS : Hid (Own w.heap.size (n + 1) (ins ss p x) (p + 1) (wr.setCell ⟨w.heap.size, p, none⟩ (.string x))) := (hkp ▸ ho).step (by omega) _ (ins_at ss p x (by have := HN.out; omega))
      have hb2 : Below w.heap.size w (wr.setCell ⟨w.heap.size, p, none⟩ (.string x)) := hbw.setCell (Nat.le_refl _) _
      clear ho hkp hbw
      go_wp2
      go_loopw [9] (fun i wr => ∃ k : Nat, p ≤ k ∧ k ≤ n ∧ i = .int .i64 k ∧ Own w.heap.size (n + 1) (ins ss p x) (k + 1) wr ∧ Below w.heap.size w wr) (fun i _ => n - (intOf i).toNat)
      case atStart => exact ⟨p, Nat.le_refl _, hp, rfl, HS.out, hb2⟩
      case round =>
        obtain ⟨k, hpk, hk, rfl, ho, hbw⟩ := hrel
        clear hb2 hu hf
        by_cases hlt : k < n
        · obtain ⟨b, off, rfl, hc0, _, _⟩ := hL.get (k := k) (by have := HN.out; omega)
          have hc := keeps hbw hc0
          obtain ⟨⟨u, hu⟩, hf⟩ := ho.cell (k + 1) (by omega)
          have HS : Hid (Own w.heap.size (n + 1) (ins ss p x) (k + 1 + 1) (wr.setCell ⟨w.heap.size, k + 1, none⟩ (.string (at' ss k)))) := ho.step (by omega) _ (ins_gt ss p x (by have := HN.out; omega) k hpk)
          clear hc0 ho
          go_wp2
          go_roundw
          case rel => exact ⟨k + 1, by omega, by omega, by go_num, HS.out, hbw.setCell (Nat.le_refl _) _⟩
          case measure => simp [intOf]; omega
        · have hkn : k = n := by omega
          have hd := (hkn ▸ ho).done (by rw [HT.out, HN.out]) HZ
          clear hkn
          go_wp2
          go_ret
          exact ⟨_, rfl, hd, hbw⟩
end Go.Proofs.Qxb6617630a
