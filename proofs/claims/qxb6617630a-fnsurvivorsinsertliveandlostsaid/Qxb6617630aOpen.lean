/-
  The arguments opened: a map of bools keyed by strings; a slice of strings.
-/
import Derived.Test.Qxb6617630aSurv
import Derived.ProofKit
namespace Go.Proofs.Qxb6617630a
open Go.ChangeShapes Go.WideShapes Go.ChangeAt Go.RowKit Go.WideElems

theorem zero4 (w : World) : (zeroValue 4).run Try.prog w = .ok (.bool false) w := by kernel_rfl

/-- What a datum answers at a string. -/
def answers {H : Type} (D : DataW H) (s : ByteArray) : Bool := match D.atKey (.string s.data.toList) (.lit (.bool false)) with
  | .lit (.bool b) => b
  | _ => false

theorem plain_bool {H : Type} {v : Value} {z : DataW H × List MemPlace} (h : plainElem Try.prog 4 v = some z) : ∃ b, v = .bool b ∧ z = (.lit (.bool b), []) := by
  unfold plainElem at h
  rw [Try.underlying4] at h
  cases v <;> simp at h
  exact ⟨_, rfl, h.symm⟩

theorem look_some {H : Type} {w : World} {b n : Nat} {D : DataW H} (h : w.ownsMap Try.prog 9 (plainElem Try.prog 4) b n D) : Look w (.map (some b)) (answers D) := by
  intro wx hb s hs
  have hx : wx.ownsMap Try.prog 9 (plainElem Try.prog 4) b n D := by
    obtain ⟨es, clock, hh, r⟩ := h
    exact ⟨es, clock, (hb.block b (Array.getElem?_eq_some_iff.1 hh).1).trans hh, r⟩
  obtain ⟨v, ps, hrun, hv⟩ := hx.lookup (Maps.string_keyed Try.underlying9) Try.underlying24 (zero4 wx) (plainElem_bool Try.underlying4 false) (WideMaps.keyOf_string_mk Try.underlying9 hs)
  obtain ⟨bb, rfl, hz⟩ := plain_bool hv
  simp only [Prod.mk.injEq] at hz
  rw [hrun]
  unfold answers
  rw [hz.1]

theorem look_none {w : World} : Look w (.map none) (fun _ => false) := by
  intro wx _ s hs
  have := Maps.look_nil (w := wx) (P := Try.prog) false (Maps.string_keyed Try.underlying9) Try.underlying24 (zero4 wx) (WideMaps.keyOf_string_mk Try.underlying9 hs)
  simpa using this

theorem map_of {H : Type} {enc : TypeId × Value → H} {w : World} {spare : Nat → Bool} {held : Bool} {r : Reach} {b0 : Nat} {v : Value} {d : DataW H} {ps : List MemPlace}
    (hv : Value.okWide Try.prog w r b0 24 v) (h : DataW.Trod enc Try.prog w 0 spare held 24 v d ps) :
    ∃ (m : Option Nat) (k : Nat) (L : ByteArray → Bool), v = .map m ∧ (∀ ty, (Builtin.len_ #[24] ty #[.map m]).run Try.prog w = .ok (.int .i64 k) w) ∧ Look w (.map m) L := by
  obtain ⟨a, rfl⟩ := okWide_map Try.underlying24 hv
  obtain ⟨fuel, hf⟩ := h
  rcases open_map Try.underlying24 hf with ⟨hcs, _⟩ | ⟨bm, es, clock, m, _, hcs, hb, _, F, _⟩
  · simp [Value.cells] at hcs
    subst hcs
    exact ⟨none, 0, _, rfl, fun ty => Maps.len_nil Try.underlying24 ty, look_none⟩
  · simp [Value.cells] at hcs
    subst hcs
    have hown := World.ownsMap_of_fit (R := plainElem Try.prog 4) hb F (fun x _ z hz => by
      obtain ⟨bb, e1, e2⟩ := elemAt_bool Try.underlying4 hz
      rw [e1, e2]
      exact plainElem_bool Try.underlying4 bb)
    exact ⟨some bm, _, _, rfl, fun ty => hown.len Try.underlying24 ty, look_some hown⟩

theorem slice_of {H : Type} {enc : TypeId × Value → H} {w : World} {spare : Nat → Bool} {held : Bool} {r : Reach} {b0 : Nat} {v : Value} {d : DataW H} {ps : List MemPlace}
    (hv : Value.okWide Try.prog w r b0 23 v) (h : DataW.Trod enc Try.prog w 0 spare held 23 v d ps) :
    ∃ (a : Option Addr) (n cap : Nat) (ss : List ByteArray), v = .slice a n cap ∧ ss.length = n ∧ n ≤ cap ∧ Lst w a ss := by
  obtain ⟨a0, len, cap, rfl⟩ := okWide_slice Try.underlying23 hv
  obtain ⟨fuel, hf⟩ := h
  rcases open_strings Try.underlying23 Try.underlying9 (by kernel_rfl) hf with ⟨e, _⟩ | ⟨a, len', cap', ss, e, _, hl, hm, hz, _, hcell, hws⟩
  · simp [Value.cells] at e
    obtain ⟨rfl, rfl, rfl⟩ := e
    exact ⟨none, 0, 0, [], rfl, rfl, Nat.le_refl _, ⟨by simp, .inl rfl⟩⟩
  · simp [Value.cells] at e
    obtain ⟨rfl, rfl, rfl⟩ := e
    have hsl : len ≤ ss.length := by rw [hz]; split <;> omega
    refine ⟨some a, len, cap, ss.take len, rfl, by simp; omega, hl, ⟨fun s hs => hws s (List.mem_of_mem_take hs), ?_⟩⟩
    by_cases h0 : len = 0
    · left; rw [h0]; simp
    · right
      obtain ⟨b, off, spot⟩ := a
      have hc := hcell 0 (by omega)
      have hspot : spot = none := by simpa [Addr.add] using World.cell?_spot hc
      subst hspot
      refine ⟨b, off, rfl, fun i hi => ?_⟩
      have hi' : i < len := by simp at hi; omega
      have := hcell i (by omega)
      rw [at_take ss len i hi']
      have ha : (⟨b, off, none⟩ : Addr).add i = ⟨b, off + i, none⟩ := by unfold Addr.add; split <;> simp_all
      rw [ha] at this
      exact this
end Go.Proofs.Qxb6617630a
