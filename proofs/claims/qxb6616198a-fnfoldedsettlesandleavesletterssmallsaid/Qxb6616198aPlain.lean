/-
  Plain lemmas for the folding of letters: no Go text in sight but for the two conversions.
-/
import Derived.Test.Qxb6616198aRows
import Derived.WalkKit
import Derived.Lib.ConvBytes
import Derived.Lib.SmallJoins
namespace Go.Proofs.Qxb6616198a
open Go.RowKit

/-- 'lower' on a byte's number. -/
def lowN (n : Int) : Int := if 65 ≤ n ∧ n ≤ 90 then n + 32 else n
/-- 'isSmall'. -/
def smallB (n : Int) : Bool := decide (97 ≤ n ∧ n ≤ 122)
/-- 'lower' on a byte. -/
def lowB (b : UInt8) : UInt8 := UInt8.ofNat (lowN (b.toNat : Int)).toNat
/-- the folding of a text. -/
def foldS (f : Bool) (s : ByteArray) : ByteArray := if f then ⟨s.data.map lowB⟩ else s
/-- the byte at a place, as a number. -/
def byteAt (s : ByteArray) (j : Nat) : Int := ((s.data.toList.getD j 0).toNat : Int)

theorem lowN_bd (n : Int) (h0 : 0 ≤ n) (h1 : n ≤ 255) : 0 ≤ lowN n ∧ lowN n ≤ 255 := by unfold lowN; split <;> omega
theorem lowN_idem (n : Int) : lowN (lowN n) = lowN n := by
  unfold lowN
  by_cases h : 65 ≤ n ∧ n ≤ 90
  · rw [if_pos h, if_neg (by omega)]
  · rw [if_neg h, if_neg h]
theorem u8_bd (b : UInt8) : 0 ≤ (b.toNat : Int) ∧ (b.toNat : Int) ≤ 255 := by have := b.toNat_lt; omega
theorem byteAt_bd (s : ByteArray) (j : Nat) : 0 ≤ byteAt s j ∧ byteAt s j ≤ 255 := u8_bd _
theorem lowB_toNat (b : UInt8) : ((lowB b).toNat : Int) = lowN (b.toNat : Int) := by
  have h := u8_bd b
  have h2 := lowN_bd _ h.1 h.2
  unfold lowB
  rw [UInt8.toNat_ofNat']
  omega
theorem lowB_idem (b : UInt8) : lowB (lowB b) = lowB b := by
  apply UInt8.toNat_inj.1
  have h1 := lowB_toNat (lowB b)
  rw [lowB_toNat b, lowN_idem, ← lowB_toNat b] at h1
  omega

theorem foldS_size (f : Bool) (s : ByteArray) : (foldS f s).size = s.size := by
  unfold foldS; split
  · exact Array.size_map ..
  · rfl
theorem foldS_idem (f : Bool) (s : ByteArray) : foldS f (foldS f s) = foldS f s := by
  unfold foldS
  cases f
  · simp
  · simp only [if_true, Array.map_map]
    congr 1
    apply Array.map_congr_left
    intro b _
    exact lowB_idem b
theorem foldS_at (f : Bool) (s : ByteArray) (k : Nat) (h : k < s.size) (h' : k < (foldS f s).size) :
    (((foldS f s)[k]'h').toNat : Int) = if f then lowN (s[k].toNat : Int) else (s[k].toNat : Int) := by
  cases f
  · rfl
  · rw [if_pos rfl, ← lowB_toNat]
    show (((s.data.map lowB)[k]'(by rw [Array.size_map]; exact h)).toNat : Int) = ((lowB (s.data[k])).toNat : Int)
    rw [Array.getElem_map]

theorem foldl_push (ns : List Int) (acc : ByteArray) : ns.foldl (fun r n => r.push (UInt8.ofNat n.toNat)) acc = ⟨acc.data ++ (ns.map (fun n => UInt8.ofNat n.toNat)).toArray⟩ := by
  induction ns generalizing acc with
  | nil => simp
  | cons n ns ih =>
    rw [List.foldl_cons, ih]
    congr 1
    show (acc.data.push _) ++ _ = _
    simp

theorem folded_list (s : ByteArray) : ((List.range s.size).map (fun j => lowN (byteAt s j))).foldl (fun r n => r.push (UInt8.ofNat n.toNat)) ByteArray.empty = foldS true s := by
  rw [foldl_push]
  unfold foldS
  rw [if_pos rfl]
  congr 1
  apply Array.ext'
  simp only [List.map_map]
  apply List.ext_getElem?
  intro j
  by_cases hj : j < s.size
  · have hj' : j < s.data.size := hj
    have e1 : (ByteArray.empty.data ++ (List.map ((fun n : Int => UInt8.ofNat n.toNat) ∘ fun j => lowN (byteAt s j)) (List.range s.size)).toArray).toList[j]? = some (UInt8.ofNat (lowN (byteAt s j)).toNat) := by
      have e0 : ByteArray.empty.data = #[] := rfl
      rw [e0]
      simp [hj]
    rw [e1]
    have e2 : s.data[j]? = some s.data[j] := Array.getElem?_eq_getElem hj'
    simp [byteAt, lowB, List.getD, e2]
  · have e0 : ByteArray.empty.data = #[] := rfl
    rw [e0]
    have h1 : s.size ≤ j := by omega
    simp [h1]

/-- The row that the call made of the text s: block N, its mark at M, of its first bytes k are folded already. -/
def Row (N : Nat) (s : ByteArray) (M k : Nat) (wr : World) : Prop :=
  ∃ cs : Array Value, wr.heap[N]? = some (.cells cs 5 (M, M + 1)) ∧ cs.size = M ∧ s.size ≤ M ∧ ∀ j, j < s.size → cs[j]? = some (.int .u8 (if j < k then lowN (byteAt s j) else byteAt s j))

theorem row_start (w : World) (s : ByteArray) : ∃ M, Row w.heap.size s M 0 (Lib.bytesWorld w 5 s) := by
  refine ⟨(Lib.bytesCells w 5 s).size, Lib.bytesCells w 5 s, Lib.bytesWorld_at_new w 5 s, rfl, ?_, ?_⟩
  · have e : (s.data.map fun b => Value.int .u8 b.toNat).size = s.size := Array.size_map ..
    unfold Lib.bytesCells
    rw [Array.size_append, e]
    omega
  · intro j hj
    have h := Lib.bytesWorld_cell w 5 s j hj
    rw [World.cell?, Lib.bytesWorld_at_new] at h
    simpa [byteAt] using h

theorem row_cell {N : Nat} {s : ByteArray} {M k : Nat} {wr : World} (h : Row N s M k wr) (hk : k < s.size) :
    wr.cell? ⟨N, k, none⟩ = some (.int .u8 (byteAt s k)) ∧ wr.frozen? ⟨N, k, none⟩ = false := by
  obtain ⟨cs, hb, hm, hs, hc⟩ := h
  constructor
  · have := hc k hk
    simp only [World.cell?, hb]
    simpa using this
  · have : ¬ M ≤ k := by omega
    simp [World.frozen?, hb, this]

theorem row_step {N : Nat} {s : ByteArray} {M k : Nat} {wr : World} (h : Row N s M k wr) (hk : k < s.size) :
    Row N s M (k + 1) (wr.setCell ⟨N, k, none⟩ (.int .u8 (lowN (byteAt s k)))) := by
  obtain ⟨cs, hb, hm, hs, hc⟩ := h
  refine ⟨cs.setIfInBounds k (.int .u8 (lowN (byteAt s k))), Joins.block_setCell hb _, by simpa using hm, hs, ?_⟩
  intro j hj
  rw [Array.getElem?_setIfInBounds]
  by_cases e : k = j
  · subst e
    rw [if_pos rfl, if_pos (by omega), if_pos (by omega)]
  · rw [if_neg e, hc j hj]
    by_cases h1 : j < k
    · rw [if_pos h1, if_pos (by omega)]
    · rw [if_neg h1, if_neg (by omega)]

theorem row_end {N : Nat} {s : ByteArray} {M : Nat} {wr : World} (cap : Nat) (h : Row N s M s.size wr) :
    (convert 46 9 (.slice (some ⟨N, 0, none⟩) s.size cap)).run Try.prog wr = .ok (.string (foldS true s)) wr := by
  rw [run_convert_bytes_string wr 46 9 5 _ _ _ Try.underlying46 Try.underlying5 Try.underlying9]
  obtain ⟨cs, hb, hm, hs, hc⟩ := h
  have hl := run_loadCells (P := Try.prog) wr ⟨N, 0, none⟩ s.size (fun j => .int .u8 (lowN (byteAt s j))) (by
    intro j hj
    have := hc j hj
    rw [if_pos hj] at this
    have ha : (⟨N, 0, none⟩ : Addr).add j = ⟨N, j, none⟩ := by unfold Addr.add; split <;> simp_all
    rw [ha]
    simp only [World.cell?, hb]
    simpa using this)
  rw [run_bytesToString wr ⟨N, 0, none⟩ s.size cap ((List.range s.size).map (fun j => lowN (byteAt s j))) (by rw [hl]; simp [List.map_map, Function.comp_def])]
  rw [folded_list]

theorem conv_start (w : World) (s : ByteArray) : ∃ cap M W1, (convert 9 46 (.string s)).run Try.prog w = .ok (.slice (some ⟨w.heap.size, 0, none⟩) s.size cap) W1 ∧ Row w.heap.size s M 0 W1 ∧ Below w.heap.size w W1 := by
  obtain ⟨M, hM⟩ := row_start w s
  exact ⟨_, M, _, Lib.run_convert_string_bytes w 9 46 5 s Try.underlying9 Try.underlying46 Try.underlying5, hM,
    ⟨rfl, rfl, rfl, by rw [Lib.bytesWorld_size]; omega, fun k hk => Lib.bytesWorld_at_old w 5 s k hk⟩⟩

end Go.Proofs.Qxb6616198a
