/-
  Plain lemmas on lists of strings; what the walks are told of memory.
-/
import Derived.Test.Qxb6617630aRows
import Derived.WalkKit
import Derived.Maps.OwnSet
namespace Go.Proofs.Qxb6617630a
open Go.RowKit

/-- The string at a place. -/
def at' (ss : List ByteArray) (i : Nat) : ByteArray := ss.getD i ByteArray.empty
/-- v put in at p. -/
def ins (ss : List ByteArray) (p : Nat) (v : ByteArray) : List ByteArray := ss.take p ++ v :: ss.drop p
/-- The members that are not lost. -/
def surv (L : ByteArray → Bool) (ss : List ByteArray) : List ByteArray := ss.filter (fun s => !L s)

theorem ins_length (ss : List ByteArray) (p : Nat) (v : ByteArray) (h : p ≤ ss.length) : (ins ss p v).length = ss.length + 1 := by
  unfold ins; simp; omega
theorem ins_lt (ss : List ByteArray) (p : Nat) (v : ByteArray) (h : p ≤ ss.length) (j : Nat) (hj : j < p) : at' (ins ss p v) j = at' ss j := by
  unfold ins at'
  simp only [List.getD]
  rw [List.getElem?_append_left (by simp; omega), List.getElem?_take, if_pos hj]
theorem ins_at (ss : List ByteArray) (p : Nat) (v : ByteArray) (h : p ≤ ss.length) : at' (ins ss p v) p = v := by
  unfold ins at'
  simp only [List.getD]
  rw [List.getElem?_append_right (by simp; omega)]
  have : p - (ss.take p).length = 0 := by simp; omega
  rw [this]
  rfl
theorem ins_gt (ss : List ByteArray) (p : Nat) (v : ByteArray) (h : p ≤ ss.length) (i : Nat) (hi : p ≤ i) : at' (ins ss p v) (i + 1) = at' ss i := by
  unfold ins at'
  simp only [List.getD]
  rw [List.getElem?_append_right (by simp; omega)]
  have : i + 1 - (ss.take p).length = (i - p) + 1 := by simp; omega
  rw [this, List.getElem?_cons_succ, List.getElem?_drop]
  have : p + (i - p) = i := by omega
  rw [this]

theorem surv_append (L : ByteArray → Bool) (a b : List ByteArray) : surv L (a ++ b) = surv L a ++ surv L b := by unfold surv; simp
theorem surv_snoc_live (L : ByteArray → Bool) (a : List ByteArray) (s : ByteArray) (h : L s = false) : surv L (a ++ [s]) = surv L a ++ [s] := by unfold surv; simp [h]
theorem surv_snoc_lost (L : ByteArray → Bool) (a : List ByteArray) (s : ByteArray) (h : L s = true) : surv L (a ++ [s]) = surv L a := by unfold surv; simp [h]
theorem surv_le (L : ByteArray → Bool) (a : List ByteArray) : (surv L a).length ≤ a.length := List.length_filter_le ..
theorem surv_ins_lost (L : ByteArray → Bool) (ss : List ByteArray) (q : Nat) (y : ByteArray) (h : L y = true) : surv L (ins ss q y) = surv L ss := by
  rw [show surv L ss = surv L (ss.take q) ++ surv L (ss.drop q) from by rw [← surv_append, List.take_append_drop]]
  unfold ins surv
  rw [List.filter_append, List.filter_cons_of_neg (by simp [h])]
theorem surv_ins_live (L : ByteArray → Bool) (ss : List ByteArray) (p : Nat) (x : ByteArray) (h : L x = false) : surv L (ins ss p x) = surv L (ss.take p) ++ x :: surv L (ss.drop p) := by
  unfold ins surv
  simp [h]
theorem surv_split (L : ByteArray → Bool) (ss : List ByteArray) (p : Nat) : surv L ss = surv L (ss.take p) ++ surv L (ss.drop p) := by
  rw [← surv_append, List.take_append_drop]
theorem take_snoc (ss : List ByteArray) (k : Nat) (h : k < ss.length) : ss.take (k + 1) = ss.take k ++ [at' ss k] := by
  rw [List.take_succ_eq_append_getElem h]
  congr 2
  unfold at'
  simp [List.getD, h]
theorem mem_at {ss : List ByteArray} {k : Nat} (h : k < ss.length) : at' ss k ∈ ss := by
  unfold at'
  simp [List.getD, h]

/-- THE LAW, with no Go in sight: the survivors of the first P members are a head of the survivors; those of the view with x (live) put in at P and y (lost) at Q are the survivors with x put in behind that head. -/
theorem key (L : ByteArray → Bool) (ss : List ByteArray) (P Q : Nat) (x y : ByteArray) (hx : L x = false) (hy : L y = true) :
    ∃ na, na ≤ (surv L ss).length ∧ surv L (ss.take P) = (surv L ss).take na ∧ ((surv L ss).take na).length = na ∧ surv L (ins (ins ss P x) Q y) = ins (surv L ss) na x := by
  have e := surv_split L ss P
  refine ⟨(surv L (ss.take P)).length, ?_, ?_, ?_, ?_⟩
  · rw [e]; simp
  · rw [e]; simp
  · rw [e]; simp
  · rw [surv_ins_lost L _ Q y hy, surv_ins_live L ss P x hx, e]
    unfold ins
    simp
theorem at_take (ss : List ByteArray) (na k : Nat) (h : k < na) : at' (ss.take na) k = at' ss k := by
  unfold at'
  simp [List.getD, h]

/-- A slice of strings in memory: the address that its value bears, and its strings. -/
def Lst (w : World) (a : Option Addr) (ss : List ByteArray) : Prop :=
  (∀ s ∈ ss, s.size ≤ maxLen) ∧ (ss = [] ∨ ∃ b off, a = some ⟨b, off, none⟩ ∧ ∀ i, i < ss.length → w.cell? ⟨b, off + i, none⟩ = some (.string (at' ss i)))

theorem keeps {w w' : World} (hb : Below w.heap.size w w') {a : Addr} {v : Value} (h : w.cell? a = some v) : w'.cell? a = some v :=
  (hb.cell (World.block_lt_of_cell? w a h)).trans h
theorem Lst.below {w w' : World} {a : Option Addr} {ss : List ByteArray} (h : Lst w a ss) (hb : Below w.heap.size w w') : Lst w' a ss := by
  refine ⟨h.1, ?_⟩
  rcases h.2 with h0 | ⟨b, off, ha, hc⟩
  · exact .inl h0
  · exact .inr ⟨b, off, ha, fun i hi => keeps hb (hc i hi)⟩
theorem Lst.get {w : World} {a : Option Addr} {ss : List ByteArray} (h : Lst w a ss) {k : Nat} (hk : k < ss.length) :
    ∃ b off, a = some ⟨b, off, none⟩ ∧ w.cell? ⟨b, off + k, none⟩ = some (.string (at' ss k)) ∧ (at' ss k).size ≤ maxLen ∧ b < w.heap.size := by
  rcases h.2 with h0 | ⟨b, off, ha, hc⟩
  · subst h0; simp at hk
  · exact ⟨b, off, ha, hc k hk, h.1 _ (mem_at hk), World.block_lt_of_cell? _ _ (hc k hk)⟩
theorem Lst.take {w : World} {a : Option Addr} {ss : List ByteArray} (h : Lst w a ss) (p : Nat) (hp : p ≤ ss.length) : Lst w a (ss.take p) := by
  refine ⟨fun s hs => h.1 s (List.mem_of_mem_take hs), ?_⟩
  rcases h.2 with h0 | ⟨b, off, ha, hc⟩
  · exact .inl (by rw [h0]; simp)
  · refine .inr ⟨b, off, ha, fun i hi => ?_⟩
    have hi' : i < p := by simp at hi; omega
    rw [hc i (by omega)]
    congr 2
    unfold at'
    simp [List.getD, hi']

/-- What is owned as a row of strings is such a slice. -/
theorem lst_of_own {w : World} {base : Nat} {v : Value} {m : Nat} {ss : List ByteArray} (h : w.ownsRow base 9 1 v m (ss.map Value.string)) (hs : ∀ s ∈ ss, s.size ≤ maxLen) :
    ∃ a c, v = .slice a m c ∧ ss.length = m ∧ Lst w a ss := by
  have hl : ss.length = m := by have := h.1; simpa using this
  rcases h.2 with ⟨rfl, rfl⟩ | ⟨g, cap, cur, rfl, hb, hg, hn, hm, hz, ht⟩
  · exact ⟨none, 0, rfl, hl, hs, .inl (by simpa using hl)⟩
  · refine ⟨_, cap, rfl, hl, hs, .inr ⟨g, 0, rfl, fun i hi => ?_⟩⟩
    have e := h.cellAt i (by omega)
    rw [Nat.zero_add, e]
    unfold at'
    simp [List.getD, hi]
end Go.Proofs.Qxb6617630a
