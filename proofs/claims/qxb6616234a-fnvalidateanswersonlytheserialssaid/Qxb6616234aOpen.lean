/-
  The arguments opened: structs by value, slices of strings, pointers.
-/
import Derived.Test.Qxb6616234aSizes
import Derived.ProofKit
import Derived.Lib.SmallJoins
namespace Go.Proofs.Qxb6616234a
open Go.ChangeShapes Go.WideShapes Go.ChangeAt Go.RowKit Go.Deep

section
variable {H : Type} {enc : TypeId × Value → H} {w : World} {spare : Nat → Bool} {held : Bool}

/-- A struct by value, each field of one cell: its cells, each with its reading. -/
theorem open_struct {P : Program} {r : Reach} {b0 : Nat} {t : TypeId} {fs : Array Field} {v : Value} {d : DataW H} {p : List MemPlace} (hs : P.underlying t = some (.struct fs)) (hone : oneCellFields P fs = true) (hC : P.cellsOf t = fs.size)
    (hv : Value.okWide P w r b0 t v) (h : DataW.Trod enc P w 0 spare held t v d p) :
    ∃ (cs : Array Value) (n : Nat), v = .agg cs ∧ cs.size = fs.size ∧ ∀ (i : Nat) (f : Field) (c : Value), fs[i]? = some f → cs[i]? = some c → ∃ y, DataW.trod enc P w 0 spare held n f.type [c] = some y := by
  obtain ⟨cs, rfl, hsz⟩ := okWide_struct hs hv
  obtain ⟨fuel, hf⟩ := h
  obtain ⟨xs, n, _, _, hl, hlen, hff⟩ := DataW.trod_struct hs hf
  refine ⟨cs, n, rfl, hsz.trans hC, fun i f c hi hc => ?_⟩
  have g := hff i f hi
  obtain ⟨o, k⟩ := hone_of hone i f hi
  rw [o, k] at g
  have hlt : i < fs.size := (Array.getElem?_eq_some_iff.1 hi).1
  have hlc : i < cs.size := (Array.getElem?_eq_some_iff.1 hc).1
  have e : (((Value.agg cs).cells.toList.drop i).take 1) = [c] := by
    have h1 : (Value.agg cs).cells.toList = cs.toList := rfl
    rw [h1, take1_drop cs.toList i undef (by simpa using hlc)]
    have h2 : cs.toList[i]? = some c := by simpa using hc
    simp [List.getD, h2]
  rw [e] at g
  exact ⟨_, g.trans (List.getElem?_eq_getElem (by omega))⟩

theorem int_of {k : IntKind} {t : TypeId} (ht : Try.prog.underlying t = some (.int k)) {n : Nat} {c : Value} (h : ∃ y, DataW.trod enc Try.prog w 0 spare held n t [c] = some y) : ∃ x, c = .int k x := by
  obtain ⟨y, h⟩ := h
  obtain ⟨x, e, _⟩ := DataW.trod_int ht h
  exact ⟨x, by simpa using e⟩
theorem str_of {t : TypeId} (ht : Try.prog.underlying t = some .string) {n : Nat} {c : Value} (h : ∃ y, DataW.trod enc Try.prog w 0 spare held n t [c] = some y) : ∃ x, c = .string x ∧ x.size ≤ maxLen := by
  obtain ⟨y, h⟩ := h
  obtain ⟨x, e, _, hm⟩ := DataW.trod_string ht h
  exact ⟨x, by simpa using e, hm⟩
theorem strs_of {n : Nat} {c : Value} (h : ∃ y, DataW.trod enc Try.prog w 0 spare held n 22 [c] = some y) : ∃ a len cap, c = .slice a len cap ∧ Strs w a len := by
  obtain ⟨y, h⟩ := h
  rcases open_strings Try.underlying22 Try.underlying9 (by kernel_rfl) h with ⟨e, _⟩ | ⟨a, len, cap, ss, e, _, hl, hm, hz, _, hcell, hws⟩
  · exact ⟨none, 0, 0, by simpa using e, ⟨Nat.zero_le _, .inl rfl⟩⟩
  · refine ⟨some a, len, cap, by simpa using e, ⟨by omega, ?_⟩⟩
    by_cases h0 : len = 0
    · exact .inl h0
    · right
      have hsl : len ≤ ss.length := by rw [hz]; split <;> omega
      obtain ⟨b, off, spot⟩ := a
      have hc := hcell 0 (by omega)
      have hspot : spot = none := by simpa [Addr.add] using World.cell?_spot hc
      subst hspot
      refine ⟨b, off, rfl, fun i hi => ⟨_, ?_, hws _ (List.getElem_mem (show i < ss.length by omega))⟩⟩
      have := hcell i (by omega)
      rw [add_plain] at this
      rw [this]
      simp [List.getD, List.getElem?_eq_getElem (show i < ss.length by omega)]
theorem meid_of {n : Nat} {c : Value} (h : ∃ y, DataW.trod enc Try.prog w 0 spare held n 26 [c] = some y) : ∃ p m, c = .pointer p ∧ MeidAt w p m := by
  obtain ⟨y, h⟩ := h
  rcases DataW.trod_pointer Try.underlying26 h with ⟨e, _⟩ | ⟨a, cs', y', m, _, e, _, hcells, hy⟩
  · exact ⟨none, none, by simpa using e, .inl ⟨rfl, rfl⟩⟩
  · obtain ⟨x, rfl, _⟩ := DataW.trod_int Try.underlying85 hy
    obtain ⟨_, _, hcell⟩ := World.cells?_some hcells
    have h1 : Try.prog.cellsOf 85 = 1 := by kernel_rfl
    rw [h1] at hcell
    have hc := hcell 0 (by omega)
    obtain ⟨b, off, spot⟩ := a
    have hspot : spot = none := by simpa [Addr.add] using World.cell?_spot hc
    subst hspot
    exact ⟨_, some x, by simpa using e, .inr ⟨b, off, x, rfl, rfl, by simpa [Addr.add] using hc⟩⟩
theorem serv_of {n : Nat} {c : Value} (h : ∃ y, DataW.trod enc Try.prog w 0 spare held n 29 [c] = some y) : ∃ p, c = .pointer p ∧ ServAt w p := by
  obtain ⟨y, h⟩ := h
  rcases open_ptr_fields Try.underlying29 Try.underlying60 (hone_of (by kernel_rfl)) (by kernel_rfl) (by decide) h with ⟨e, _⟩ | ⟨b, o, m, V, Y, e, _, _, hV⟩
  · exact ⟨none, by simpa using e, .inl rfl⟩
  · have f0 := hV 0 _ rfl
    have f1 := hV 1 _ rfl
    have f2 := hV 2 _ rfl
    have f3 := hV 3 _ rfl
    obtain ⟨x0, e0⟩ := int_of Try.underlying25 ⟨_, f0.2⟩
    obtain ⟨x1, e1⟩ := int_of Try.underlying5 ⟨_, f1.2⟩
    obtain ⟨x2, e2, hm⟩ := str_of Try.underlying9 ⟨_, f2.2⟩
    obtain ⟨x3, e3⟩ := int_of Try.underlying25 ⟨_, f3.2⟩
    have g0 := f0.1
    have g1 := f1.1
    have g2 := f2.1
    have g3 := f3.1
    rw [e0] at g0
    rw [e1] at g1
    rw [e2] at g2
    rw [e3] at g3
    exact ⟨_, by simpa using e, .inr ⟨b, o, x0, x1, x2, x3, rfl, g0, g1, g2, g3, hm⟩⟩
end

theorem array6 {α : Type} {cs : Array α} (h : cs.size = 6) : ∃ c0 c1 c2 c3 c4 c5, cs = #[c0, c1, c2, c3, c4, c5] := by
  obtain ⟨l⟩ := cs
  match l, h with
  | [c0, c1, c2, c3, c4, c5], _ => exact ⟨c0, c1, c2, c3, c4, c5, rfl⟩
theorem array9 {α : Type} {cs : Array α} (h : cs.size = 9) : ∃ c0 c1 c2 c3 c4 c5 c6 c7 c8, cs = #[c0, c1, c2, c3, c4, c5, c6, c7, c8] := by
  obtain ⟨l⟩ := cs
  match l, h with
  | [c0, c1, c2, c3, c4, c5, c6, c7, c8], _ => exact ⟨c0, c1, c2, c3, c4, c5, c6, c7, c8, rfl⟩

section
variable {H : Type} {enc : TypeId × Value → H} {w : World} {spare : Nat → Bool} {held : Bool} {r : Reach} {b0 : Nat} {v : Value} {d : DataW H} {p : List MemPlace}

set_option maxRecDepth 100000 in
theorem open_cfg (hv : Value.okWide Try.prog w r b0 24 v) (h : DataW.Trod enc Try.prog w 0 spare held 24 v d p) :
    ∃ a0 l0 c0 a1 l1 c1 code ct, v = .agg #[.slice a0 l0 c0, .slice a1 l1 c1, .int .u8 code, .int .i64 ct] ∧ Strs w a0 l0 ∧ Strs w a1 l1 := by
  obtain ⟨cs, n, rfl, hsz, hf⟩ := open_struct Try.underlying24 (by kernel_rfl) (by kernel_rfl) hv h
  obtain ⟨x0, x1, x2, x3, rfl⟩ := Joins.array4 hsz
  obtain ⟨a0, l0, c0, rfl, h0⟩ := strs_of (hf 0 _ _ rfl rfl)
  obtain ⟨a1, l1, c1, rfl, h1⟩ := strs_of (hf 1 _ _ rfl rfl)
  obtain ⟨code, rfl⟩ := int_of Try.underlying5 (hf 2 _ _ rfl rfl)
  obtain ⟨ct, rfl⟩ := int_of Try.underlying2 (hf 3 _ _ rfl rfl)
  exact ⟨a0, l0, c0, a1, l1, c1, code, ct, rfl, h0, h1⟩
set_option maxRecDepth 100000 in
theorem open_rn (hv : Value.okWide Try.prog w r b0 28 v) (h : DataW.Trod enc Try.prog w 0 spare held 28 v d p) :
    ∃ e1 m1 r2 r3 r4 p1 n1, v = .agg #[.int .u32 e1, .string m1, .int .u32 r2, .int .u8 r3, .int .u8 r4, .pointer p1] ∧ MeidAt w p1 n1 := by
  obtain ⟨cs, n, rfl, hsz, hf⟩ := open_struct Try.underlying28 (by kernel_rfl) (by kernel_rfl) hv h
  obtain ⟨x0, x1, x2, x3, x4, x5, rfl⟩ := array6 hsz
  obtain ⟨e1, rfl⟩ := int_of Try.underlying25 (hf 0 _ _ rfl rfl)
  obtain ⟨m1, rfl, _⟩ := str_of Try.underlying9 (hf 1 _ _ rfl rfl)
  obtain ⟨r2, rfl⟩ := int_of Try.underlying25 (hf 2 _ _ rfl rfl)
  obtain ⟨r3, rfl⟩ := int_of Try.underlying5 (hf 3 _ _ rfl rfl)
  obtain ⟨r4, rfl⟩ := int_of Try.underlying5 (hf 4 _ _ rfl rfl)
  obtain ⟨p1, n1, rfl, h1⟩ := meid_of (hf 5 _ _ rfl rfl)
  exact ⟨e1, m1, r2, r3, r4, p1, n1, rfl, h1⟩
set_option maxRecDepth 100000 in
theorem open_sub (hv : Value.okWide Try.prog w r b0 31 v) (h : DataW.Trod enc Try.prog w 0 spare held 31 v d p) :
    ∃ m2 e2 p2 q1 n2, v = .agg #[.string m2, .int .u32 e2, .pointer p2, .pointer q1] ∧ MeidAt w p2 n2 ∧ ServAt w q1 := by
  obtain ⟨cs, n, rfl, hsz, hf⟩ := open_struct Try.underlying31 (by kernel_rfl) (by kernel_rfl) hv h
  obtain ⟨x0, x1, x2, x3, rfl⟩ := Joins.array4 hsz
  obtain ⟨m2, rfl, _⟩ := str_of Try.underlying9 (hf 0 _ _ rfl rfl)
  obtain ⟨e2, rfl⟩ := int_of Try.underlying25 (hf 1 _ _ rfl rfl)
  obtain ⟨p2, n2, rfl, h2⟩ := meid_of (hf 2 _ _ rfl rfl)
  obtain ⟨q1, rfl, h3⟩ := serv_of (hf 3 _ _ rfl rfl)
  exact ⟨m2, e2, p2, q1, n2, rfl, h2, h3⟩
set_option maxRecDepth 100000 in
theorem open_alt (hv : Value.okWide Try.prog w r b0 33 v) (h : DataW.Trod enc Try.prog w 0 spare held 33 v d p) :
    ∃ a2 l2 c2 a3 l3 c3 ct2 m3 t4 t5 t6 m4 q2, v = .agg #[.slice a2 l2 c2, .slice a3 l3 c3, .int .i64 ct2, .string m3, .int .u32 t4, .int .u8 t5, .int .u8 t6, .string m4, .pointer q2] ∧ Strs w a2 l2 ∧ Strs w a3 l3 ∧ ServAt w q2 := by
  obtain ⟨cs, n, rfl, hsz, hf⟩ := open_struct Try.underlying33 (by kernel_rfl) (by kernel_rfl) hv h
  obtain ⟨x0, x1, x2, x3, x4, x5, x6, x7, x8, rfl⟩ := array9 hsz
  obtain ⟨a2, l2, c2, rfl, h2⟩ := strs_of (hf 0 _ _ rfl rfl)
  obtain ⟨a3, l3, c3, rfl, h3⟩ := strs_of (hf 1 _ _ rfl rfl)
  obtain ⟨ct2, rfl⟩ := int_of Try.underlying2 (hf 2 _ _ rfl rfl)
  obtain ⟨m3, rfl, _⟩ := str_of Try.underlying9 (hf 3 _ _ rfl rfl)
  obtain ⟨t4, rfl⟩ := int_of Try.underlying25 (hf 4 _ _ rfl rfl)
  obtain ⟨t5, rfl⟩ := int_of Try.underlying5 (hf 5 _ _ rfl rfl)
  obtain ⟨t6, rfl⟩ := int_of Try.underlying5 (hf 6 _ _ rfl rfl)
  obtain ⟨m4, rfl, _⟩ := str_of Try.underlying9 (hf 7 _ _ rfl rfl)
  obtain ⟨q2, rfl, h8⟩ := serv_of (hf 8 _ _ rfl rfl)
  exact ⟨a2, l2, c2, a3, l3, c3, ct2, m3, t4, t5, t6, m4, q2, rfl, h2, h3, h8⟩
end
end Go.Proofs.Qxb6616234a
