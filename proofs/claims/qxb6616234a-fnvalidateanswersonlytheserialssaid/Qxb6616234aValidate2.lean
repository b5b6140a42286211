/-
  The contract of 'validate' where both serial numbers are there; the contract whole; 'ZZValidate'.
-/
import Derived.Test.Qxb6616234aValidate
namespace Go.Proofs.Qxb6616234a
open Go.RowKit

set_option maxHeartbeats 2000000 in
theorem validate_parted (g : Nat) (code e1 a2 a3 a4 e2 n1 n2 : Int) (s1 s2 : ByteArray) (b1 o1 b2 o2 : Nat) (q : Option Addr) (w : World)
    (hc : w.cell? ⟨g, 2, none⟩ = some (.int .u8 code)) (h1 : w.cell? ⟨b1, o1, none⟩ = some (.int .u64 n1)) (h2 : w.cell? ⟨b2, o2, none⟩ = some (.int .u64 n2)) (he : (e2 != e1) = false) (hn : (n2 != n1) = true) :
    Calls Try.prog 19 #[.pointer (some ⟨g, 0, none⟩), .agg #[.int .u32 e1, .string s1, .int .u32 a2, .int .u8 a3, .int .u8 a4, .pointer (some ⟨b1, o1, none⟩)], .agg #[.string s2, .int .u32 e2, .pointer (some ⟨b2, o2, none⟩), .pointer q], .bool true] w fun e w' => Answer w e w' code 2 false := by
  have hlt : g < w.heap.size := World.block_lt_of_cell? _ _ hc
  obtain ⟨k1, k2, k3, k4⟩ := past hlt
  have hlt1 : b1 < w.heap.size := World.block_lt_of_cell? _ _ h1
  obtain ⟨i1, i2, i3, i4⟩ := past hlt1
  have hlt2 : b2 < w.heap.size := World.block_lt_of_cell? _ _ h2
  obtain ⟨j1, j2, j3, j4⟩ := past hlt2
  go_enter Try.func19, Try.ntmps19
  go_wp2
  go_quiet (fail)
  go_wp2
  refine bodyPost_ret (v := .agg #[.pointer none, .int .u8 2, .bool false, .int .u8 code]) (by simp [results, Try.results19, go_sem]) rfl ⟨none, rfl, .inl ⟨by omega, rfl⟩, ?_⟩
  exact (((((below_drewN (below4 _ _ _ _ _) _).setCell (by dsimp only; omega) _).setCell (by dsimp only; omega) _).setCell (by dsimp only; omega) _).setCell (by dsimp only; omega) _).setCell (by dsimp only; omega) _

set_option maxHeartbeats 2000000 in
theorem validate_met (g : Nat) (code e1 a2 a3 a4 e2 n1 n2 : Int) (s1 s2 : ByteArray) (b1 o1 b2 o2 : Nat) (q : Option Addr) (w : World)
    (hc : w.cell? ⟨g, 2, none⟩ = some (.int .u8 code)) (h1 : w.cell? ⟨b1, o1, none⟩ = some (.int .u64 n1)) (h2 : w.cell? ⟨b2, o2, none⟩ = some (.int .u64 n2)) (he : (e2 != e1) = false) (hn : (n2 != n1) = false) :
    Calls Try.prog 19 #[.pointer (some ⟨g, 0, none⟩), .agg #[.int .u32 e1, .string s1, .int .u32 a2, .int .u8 a3, .int .u8 a4, .pointer (some ⟨b1, o1, none⟩)], .agg #[.string s2, .int .u32 e2, .pointer (some ⟨b2, o2, none⟩), .pointer q], .bool true] w fun e w' => Answer w e w' code 0 true := by
  have hlt : g < w.heap.size := World.block_lt_of_cell? _ _ hc
  obtain ⟨k1, k2, k3, k4⟩ := past hlt
  have hlt1 : b1 < w.heap.size := World.block_lt_of_cell? _ _ h1
  obtain ⟨i1, i2, i3, i4⟩ := past hlt1
  have hlt2 : b2 < w.heap.size := World.block_lt_of_cell? _ _ h2
  obtain ⟨j1, j2, j3, j4⟩ := past hlt2
  go_enter Try.func19, Try.ntmps19
  go_wp2
  go_quiet (fail)
  go_wp2
  refine bodyPost_ret (v := .agg #[.pointer (some ⟨w.heap.size + 1 + 1 + 1 + 1, 0, none⟩), .int .u8 0, .bool true, .int .u8 code]) (by simp [results, Try.results19, go_sem]) rfl ⟨_, rfl, .inr ⟨rfl, _, (by omega), rfl, by go_simp, by go_simp⟩, ?_⟩
  exact (((((((below_drewN (below4 _ _ _ _ _) _).setCell (by dsimp only; omega) _).setCell (by dsimp only; omega) _).setCell (by dsimp only; omega) _).setCell (by dsimp only; omega) _).setCell (by dsimp only; omega) _).setCell (by dsimp only; omega) _).alloc (by simp <;> omega) _

theorem validate_any (g : Nat) (code e1 a2 a3 a4 e2 : Int) (s1 s2 : ByteArray) (p1 p2 q : Option Addr) (m1 m2 : Option Int) (ok : Bool) (w : World)
    (hc : w.cell? ⟨g, 2, none⟩ = some (.int .u8 code)) (h1 : MeidAt w p1 m1) (h2 : MeidAt w p2 m2) :
    Calls Try.prog 19 #[.pointer (some ⟨g, 0, none⟩), .agg #[.int .u32 e1, .string s1, .int .u32 a2, .int .u8 a3, .int .u8 a4, .pointer p1], .agg #[.string s2, .int .u32 e2, .pointer p2, .pointer q], .bool ok] w fun e w' => Answer w e w' code (den ok e1 e2 m1 m2) (vld ok e1 e2 m1 m2) := by
  cases ok with
  | false => exact validate_no g code e1 a2 a3 a4 e2 s1 s2 p1 p2 q w hc
  | true =>
    by_cases he : e2 = e1
    · have he' : (e2 != e1) = false := by simp [he]
      rcases h1 with ⟨rfl, rfl⟩ | ⟨b1, o1, n1, rfl, rfl, c1⟩
      · have d : den true e1 e2 none m2 = 0 := by simp [den, he]
        have v : vld true e1 e2 none m2 = false := by simp [vld]
        rw [d, v]
        exact validate_lone g code e1 a2 a3 a4 e2 s1 s2 none p2 q w hc he' (.inl rfl)
      · rcases h2 with ⟨rfl, rfl⟩ | ⟨b2, o2, n2, rfl, rfl, c2⟩
        · have d : den true e1 e2 (some n1) none = 0 := by simp [den, he]
          have v : vld true e1 e2 (some n1) none = false := by simp [vld]
          rw [d, v]
          exact validate_lone g code e1 a2 a3 a4 e2 s1 s2 _ none q w hc he' (.inr rfl)
        · by_cases hn : n2 = n1
          · have d : den true e1 e2 (some n1) (some n2) = 0 := by simp [den, he, hn]
            have v : vld true e1 e2 (some n1) (some n2) = true := by simp [vld, he, hn]
            rw [d, v]
            exact validate_met g code e1 a2 a3 a4 e2 n1 n2 s1 s2 b1 o1 b2 o2 q w hc c1 c2 he' (by simp [hn])
          · have d : den true e1 e2 (some n1) (some n2) = 2 := by simp [den, he, hn]
            have v : vld true e1 e2 (some n1) (some n2) = false := by simp [vld, hn]
            rw [d, v]
            exact validate_parted g code e1 a2 a3 a4 e2 n1 n2 s1 s2 b1 o1 b2 o2 q w hc c1 c2 he' (by simp [hn])
    · have d : den true e1 e2 m1 m2 = 2 := by simp [den, he]
      have v : vld true e1 e2 m1 m2 = false := by simp [vld, he]
      rw [d, v]
      exact validate_esn g code e1 a2 a3 a4 e2 s1 s2 p1 p2 q w hc (by simp [he])

set_option maxHeartbeats 2000000 in
theorem zzValidate_any (g : Nat) (code e1 a2 a3 a4 e2 : Int) (s1 s2 : ByteArray) (p1 p2 q : Option Addr) (m1 m2 : Option Int) (ok : Bool) (w : World)
    (hc : w.cell? ⟨g, 2, none⟩ = some (.int .u8 code)) (h1 : MeidAt w p1 m1) (h2 : MeidAt w p2 m2) :
    Calls Try.prog 11 #[.pointer (some ⟨g, 0, none⟩), .agg #[.int .u32 e1, .string s1, .int .u32 a2, .int .u8 a3, .int .u8 a4, .pointer p1], .agg #[.string s2, .int .u32 e2, .pointer p2, .pointer q], .bool ok] w fun e w' => Answer w e w' code (den ok e1 e2 m1 m2) (vld ok e1 e2 m1 m2) := by
  have hb3 : ∀ a b c : Obj, Below w.heap.size w (((w.alloc a).alloc b).alloc c) := fun a b c => ((((Below.refl _ _).alloc (Nat.le_refl _) a).alloc (by simp) b).alloc (by simp <;> omega) c)
  obtain ⟨d, hd⟩ : ∃ d, d = den ok e1 e2 m1 m2 := ⟨_, rfl⟩
  obtain ⟨v, hv⟩ : ∃ v, v = vld ok e1 e2 m1 m2 := ⟨_, rfl⟩
  rw [← hd, ← hv]
  have HD : Hid (d = den ok e1 e2 m1 m2) := hd
  have HV : Hid (v = vld ok e1 e2 m1 m2) := hv
  clear hd hv
  go_enter Try.func11, Try.ntmps11
  go_wp2_with fail
  refine (validate_any g code e1 a2 a3 a4 e2 s1 s2 p1 p2 q m1 m2 ok _ (keeps (hb3 _ _ _) hc) (h1.below (hb3 _ _ _)) (h2.below (hb3 _ _ _))).mono ?_
  rintro e w' ⟨pp, he, hper, hbel⟩
  rw [← HD.out, ← HV.out] at he
  rw [← HD.out] at hper
  subst he
  obtain ⟨hc2, hf2⟩ := bcell hbel
  have hm2 : Per (w.heap.size + 1 + 1 + 1) w' pp d := by simpa using hper
  have hb2 : Below w.heap.size w w' := (hb3 _ _ _).trans (hbel.mono (by simp <;> omega))
  clear hper hbel
  go_wp2
  refine bodyPost_ret (v := .agg #[.pointer pp, .int .u8 d, .bool v, .int .u8 code]) (by simp [results, Try.results11, go_sem, hc2]) rfl ⟨pp, rfl, ?_, ?_⟩
  · exact Per.mono ((((hm2.set _ (by simp)).set _ (by simp)).set _ (by simp)).set _ (by simp)) (by omega)
  · exact ((((hb2.setCell (by dsimp only; omega) _).setCell (by dsimp only; omega) _).setCell (by dsimp only; omega) _).setCell (by dsimp only; omega) _)
end Go.Proofs.Qxb6616234a
