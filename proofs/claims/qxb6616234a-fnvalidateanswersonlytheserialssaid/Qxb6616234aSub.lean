/-
  The contract of 'zzSub'.
-/
import Derived.Test.Qxb6616234aMakers
namespace Go.Proofs.Qxb6616234a
open Go.RowKit

theorem MeidNew.below {B : Nat} {w w' : World} {p : Option Addr} {m : Option Int} (h : MeidNew B w p m) (hb : Below w.heap.size w w') : MeidNew B w' p m := by
  rcases h with h | ⟨b, n, hB, hp, hm, hc⟩
  · exact .inl h
  · exact .inr ⟨b, n, hB, hp, hm, keeps hb hc⟩
theorem MeidNew.mono {B B' : Nat} {w : World} {p : Option Addr} {m : Option Int} (h : MeidNew B w p m) (hB : B' ≤ B) : MeidNew B' w p m := by
  rcases h with h | ⟨b, n, hb, hp, hm, hc⟩
  · exact .inl h
  · exact .inr ⟨b, n, by omega, hp, hm, hc⟩

set_option maxHeartbeats 2000000 in
theorem sub_any (m : ByteArray) (esn : Int) (p q : Option Addr) (mm : Option Int) (w : World) (h : MeidAt w p mm) (hq : ServAt w q) :
    Calls Try.prog 13 #[.agg #[.string m, .int .u32 esn, .pointer p, .pointer q]] w fun e w' =>
      ∃ p' q', e = .returned (.agg #[.string m, .int .u32 esn, .pointer p', .pointer q']) ∧ MeidAt w' p' mm ∧ Below w.heap.size w w' := by
  go_enter Try.func13, Try.ntmps13
  go_wp2
  go_region_held3 (fun w' => w'.cell? ⟨w.heap.size, 0, none⟩ = some (.string m) ∧ w'.cell? ⟨w.heap.size, 1, none⟩ = some (.int .u32 esn) ∧ w'.cell? ⟨w.heap.size, 2, none⟩ = some (.pointer p) ∧ w'.cell? ⟨w.heap.size, 3, none⟩ = some (.pointer q))
    (first | go_keep | (go_split_ands; refine ⟨?_, ?_, ?_, ?_⟩ <;> first | (rw [hcM _ _ (by first | omega | (simp; omega))]; first | assumption | simp [*]) | (rw [hcS _ _ (by first | omega | (simp; omega))]; first | assumption | simp [*])))
    (first | (go_at_call 20; refine (meid_any _ mm _ ?_).mono ?_; (first | exact h.below ((((Below.refl _ _).alloc (Nat.le_refl _) _).alloc (by simp) _).drew) | exact (h.below ((((Below.refl _ _).alloc (Nat.le_refl _) _).alloc (by simp) _).drew)).below hbS); rintro e w1 ⟨p', rfl, hmM, hbM⟩; obtain ⟨hcM, hfM⟩ := bcell hbM; have hzM : w.heap.size + 1 < w1.heap.size := (by have t := hbM.size; simp at t; omega)) | (go_at_call 21; refine (serving_any _ _ ?_).mono ?_; (first | exact hq.below ((((Below.refl _ _).alloc (Nat.le_refl _) _).alloc (by simp) _).drew) | exact (hq.below ((((Below.refl _ _).alloc (Nat.le_refl _) _).alloc (by simp) _).drew)).below hbM); rintro e w2 ⟨q', rfl, hbS⟩; obtain ⟨hcS, hfS⟩ := bcell hbS; have hzS : w.heap.size + 1 < w2.heap.size := (by have t := hbS.size; omega)))
  all_goals
    have hm2 : MeidNew (w.heap.size + 2) w2 p' mm := (MeidNew.mono hmM (by simp)).below hbS
    have hb2 : Below w.heap.size w w2 := (((((Below.refl _ _).alloc (Nat.le_refl _) _).alloc (by simp) _).drew).trans (hbM.mono (by simp; omega))).trans (hbS.mono (by omega))
    clear hmM hbM hbS hfM hfS
    go_wp2
    refine bodyPost_ret (v := .agg #[.string m, .int .u32 esn, .pointer p', .pointer q']) (by simp [results, Try.results13, go_sem, hcM, hcS, hzM]) rfl ⟨p', q', rfl, ?_, ?_⟩
    · exact MeidNew.at ((((hm2.set _ (by simp)).set _ (by simp)).set _ (by simp)).set _ (by simp))
    · exact ((((hb2.setCell (by simp) _).setCell (by simp) _).setCell (by simp) _).setCell (by simp) _)
end Go.Proofs.Qxb6616234a
