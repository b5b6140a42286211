/-
  The contract of 'survivors'.
-/
import Derived.Test.Qxb6617630aInsert
namespace Go.Proofs.Qxb6617630a
open Go.RowKit

/-- What the look-up of a string in the map answers, in every later world. -/
def Look (w : World) (mv : Value) (L : ByteArray → Bool) : Prop :=
  ∀ wx, Below w.heap.size w wx → ∀ s : ByteArray, s.size ≤ maxLen → (Instr.lookup 24 mv (.string s) false).run Try.prog wx = .ok (.bool (L s)) wx
theorem Look.below {w w' : World} {mv : Value} {L : ByteArray → Bool} (h : Look w mv L) (hb : Below w.heap.size w w') : Look w' mv L := fun wx hx s hs => h wx (hb.trans (hx.mono hb.size)) s hs

set_option maxHeartbeats 1000000 in
theorem surv_any (B : Nat) (a : Option Addr) (n cap : Nat) (ml : Option Nat) (ss : List ByteArray) (L : ByteArray → Bool) (w : World) (hn : ss.length = n) (hb : n ≤ 10000) (hL : Lst w a ss) (hk : Look w (.map ml) L)
    (h1 : w.cell? ⟨B, 1, none⟩ = some (.slice a n cap)) (h3 : w.cell? ⟨B, 3, none⟩ = some (.map ml)) :
    Calls Try.prog 6 #[.pointer (some ⟨B, 0, none⟩)] w fun e w' => ∃ a' c', e = .returned (.slice a' (surv L ss).length c') ∧ Lst w' a' (surv L ss) ∧ Below w.heap.size w w' := by
  obtain ⟨i0, hi, hz0, hz1, hz2⟩ := info_parts Try.info9
  have HN : Hid (ss.length = n) := hn
  clear hn
  go_enter Try.func6, Try.ntmps6
  go_wp2
  go_loopw [3, 12] (fun v i wr => ∃ k : Nat, k ≤ n ∧ i = .int .i64 k ∧ wr.ownsRow w.heap.size 9 1 v (surv L (ss.take k)).length ((surv L (ss.take k)).map Value.string) ∧ Below w.heap.size w wr) (fun _ i _ => n - (intOf i).toNat)
  case atStart => exact ⟨0, Nat.zero_le _, rfl, World.ownsRow_nil _ _ _ _, Below.refl _ _⟩
  case round =>
    obtain ⟨k, hkn, rfl, hown, hbw⟩ := hrel
    by_cases hlt : k < n
    · obtain ⟨b, off, rfl, hc0, hsz, _⟩ := hL.get (k := k) (by have := HN.out; omega)
      have hc := keeps hbw hc0
      have hm := keeps hbw h3
      have hlk := hk wr hbw _ hsz
      have hle : (surv L (ss.take k)).length ≤ k := Nat.le_trans (surv_le _ _) (by simp; omega)
      have HT : Hid (ss.take (k + 1) = ss.take k ++ [at' ss k]) := take_snoc ss k (by have := HN.out; omega)
      have h1w := keeps hbw h1
      clear hc0 hsz
      cases hl : L (at' ss k) with
      | true =>
        rw [hl] at hlk
        have HL : Hid (L (at' ss k) = true) := hl
        clear hl
        go_wp2
        go_roundw
        case rel => exact ⟨k + 1, by omega, by go_num, by rw [HT.out, surv_snoc_lost _ _ _ HL.out]; exact hown, hbw⟩
        case measure => simp [intOf]; omega
      | false =>
        rw [hl] at hlk
        have HL : Hid (L (at' ss k) = false) := hl
        clear hl
        go_wp2_with (at_builtin; refine wpList_append_own _ rfl _ _ 23 rfl w.heap.size 9 i0 (.string ByteArray.empty) 1 16 Try.underlying23 hi hz0 hz1 hz2 rfl (by decide) _ _ _ rfl (hown.alloc _) ⟨wr.heap.size, 0, none⟩ 1 1 [.string (at' ss k)] rfl rfl ?c1 ?c2 ?c3 ?c4 ?c5 ?_)
        case c1 =>
          intro j u hj
          match j, hj with
          | 0, hj => simp at hj; subst hj; simp [Addr.add]
        case c2 => intro u hu; simp at hu; subst hu; rfl
        case c3 => unfold maxLen; omega
        case c4 => omega
        case c5 => have := hbw.size; simp; omega
        · intro v' w1 hown' hgrow _
          have hb1 : Below w.heap.size w w1 := (hbw.alloc hbw.size _).grown hgrow (by have := hbw.size; simp; omega) (fun k hk => (hown.lt k hk).1)
          have HW : Hid (w1.ownsRow w.heap.size 9 1 v' (surv L (ss.take (k + 1))).length ((surv L (ss.take (k + 1))).map Value.string)) := by rw [HT.out, surv_snoc_live _ _ _ HL.out]; show World.ownsRow ..; simpa using hown'
          clear hown' hgrow hown hc hm hlk h1w
          go_wp2
          go_roundw
          case rel => exact ⟨k + 1, by omega, by go_num, HW.out, hb1⟩
          case measure => simp [intOf]; omega
    · have hkn2 : k = n := by omega
      have ht : ss.take k = ss := List.take_of_length_le (by have := HN.out; omega)
      rw [ht] at hown
      obtain ⟨a', c', rfl, hl, hls⟩ := lst_of_own hown (fun s hs => hL.1 s (List.mem_filter.1 hs).1)
      clear hkn2 ht hl hown
      go_wp2
      go_ret
      exact ⟨a', c', rfl, hls, hbw⟩

set_option maxHeartbeats 1000000 in
theorem zzSurv_any (num : Int) (a : Option Addr) (n cap : Nat) (mi ml : Option Nat) (ss : List ByteArray) (L : ByteArray → Bool) (w : World) (hn : ss.length = n) (hb : n ≤ 10000) (hL : Lst w a ss) (hk : Look w (.map ml) L) :
    Calls Try.prog 5 #[.int .u64 num, .slice a n cap, .map mi, .map ml] w fun e w' => ∃ a' c', e = .returned (.slice a' (surv L ss).length c') ∧ Lst w' a' (surv L ss) ∧ Below w.heap.size w w' := by
  have hb1 : ∀ o : Obj, Below w.heap.size w (w.alloc o) := fun o => (Below.refl _ _).alloc (Nat.le_refl _) o
  have HN : Hid (ss.length = n) := hn
  clear hn
  go_enter Try.func5, Try.ntmps5
  go_wp2_with fail
  refine (surv_any w.heap.size a n cap ml ss L _ HN.out hb (hL.below (hb1 _)) (hk.below (hb1 _)) (by go_simp) (by go_simp)).mono ?_
  rintro e w' ⟨a', c', rfl, hl, hbel⟩
  have hb2 : Below w.heap.size w w' := (hb1 _).trans (hbel.mono (by simp))
  clear hbel
  go_wp2
  go_ret
  exact ⟨a', c', rfl, hl, hb2⟩
end Go.Proofs.Qxb6617630a
