/-
  What the main walk keeps of memory; the contract of 'zzSamePeriod'.
-/
import Derived.Test.Qxb6616234aValidate2
import Derived.Test.Qxb6616234aBytes
import Derived.Lib.SmallJoins
namespace Go.Proofs.Qxb6616234a
open Go.RowKit

/-- The four boxed arguments lie at the head of the call's own memory; below it nothing has turned. -/
def Bx (w wx : World) (cfg rn s alt : Array Value) : Prop :=
  wx.heap[w.heap.size]? = some (.cells cfg 24 (0, 0)) ∧ wx.heap[w.heap.size + 1]? = some (.cells rn 28 (0, 0)) ∧ wx.heap[w.heap.size + 1 + 1]? = some (.cells s 31 (0, 0)) ∧ wx.heap[w.heap.size + 1 + 1 + 1]? = some (.cells alt 33 (0, 0)) ∧ Below w.heap.size w wx

theorem lt_of_heap {w : World} {g : Nat} {o : Obj} (h : w.heap[g]? = some o) : g < w.heap.size := (Array.getElem?_eq_some_iff.1 h).1

theorem Bx.start (w : World) (a b c d : Array Value) : Bx w ((((w.alloc (.cells a 24)).alloc (.cells b 28)).alloc (.cells c 31)).alloc (.cells d 33)) a b c d := by
  have e1 : (w.alloc (.cells a 24)).heap.size = w.heap.size + 1 := by simp
  have e2 : ((w.alloc (.cells a 24)).alloc (.cells b 28)).heap.size = w.heap.size + 1 + 1 := by simp
  have e3 : (((w.alloc (.cells a 24)).alloc (.cells b 28)).alloc (.cells c 31)).heap.size = w.heap.size + 1 + 1 + 1 := by simp
  refine ⟨?_, ?_, ?_, ?_, below4 _ _ _ _ _⟩
  · rw [Below.heap_alloc _ _ _ (by omega), Below.heap_alloc _ _ _ (by omega), Below.heap_alloc _ _ _ (by omega)]; exact heap_alloc_new w _
  · rw [Below.heap_alloc _ _ _ (by omega), Below.heap_alloc _ _ _ (by omega), ← e1]; exact heap_alloc_new _ _
  · rw [Below.heap_alloc _ _ _ (by omega), ← e2]; exact heap_alloc_new _ _
  · rw [← e3]; exact heap_alloc_new _ _

theorem Bx.below {w wx wy : World} {cfg rn s alt : Array Value} (h : Bx w wx cfg rn s alt) (hb : Below wx.heap.size wx wy) : Bx w wy cfg rn s alt := by
  obtain ⟨h0, h1, h2, h3, h4⟩ := h
  exact ⟨(hb.block _ (lt_of_heap h0)).trans h0, (hb.block _ (lt_of_heap h1)).trans h1, (hb.block _ (lt_of_heap h2)).trans h2, (hb.block _ (lt_of_heap h3)).trans h3, h4.trans (hb.mono h4.size)⟩

theorem Bx.setCfg {w wx : World} {cfg rn s alt : Array Value} (h : Bx w wx cfg rn s alt) (i : Nat) (v : Value) : Bx w (wx.setCell ⟨w.heap.size, i, none⟩ v) (cfg.setIfInBounds i v) rn s alt := by
  obtain ⟨h0, h1, h2, h3, h4⟩ := h
  have hne : ∀ n, n ≠ w.heap.size → (wx.setCell ⟨w.heap.size, i, none⟩ v).heap[n]? = wx.heap[n]? := fun n hn => Below.heap_setCell wx ⟨w.heap.size, i, none⟩ v n hn
  exact ⟨Joins.block_setCell h0 v, (hne _ (by omega)).trans h1, (hne _ (by omega)).trans h2, (hne _ (by omega)).trans h3, h4.setCell (Nat.le_refl _) v⟩

theorem Bx.setAlt {w wx : World} {cfg rn s alt : Array Value} (h : Bx w wx cfg rn s alt) (i : Nat) (v : Value) : Bx w (wx.setCell ⟨w.heap.size + 1 + 1 + 1, i, none⟩ v) cfg rn s (alt.setIfInBounds i v) := by
  obtain ⟨h0, h1, h2, h3, h4⟩ := h
  have hne : ∀ n, n ≠ w.heap.size + 1 + 1 + 1 → (wx.setCell ⟨w.heap.size + 1 + 1 + 1, i, none⟩ v).heap[n]? = wx.heap[n]? := fun n hn => Below.heap_setCell wx ⟨w.heap.size + 1 + 1 + 1, i, none⟩ v n hn
  exact ⟨(hne _ (by omega)).trans h0, (hne _ (by omega)).trans h1, (hne _ (by omega)).trans h2, Joins.block_setCell h3 v, h4.setCell (by show w.heap.size ≤ w.heap.size + 1 + 1 + 1; omega) v⟩

theorem Bx.lt {w wx : World} {cfg rn s alt : Array Value} (h : Bx w wx cfg rn s alt) : w.heap.size < wx.heap.size ∧ w.heap.size + 1 < wx.heap.size ∧ w.heap.size + 1 + 1 < wx.heap.size ∧ w.heap.size + 1 + 1 + 1 < wx.heap.size :=
  ⟨lt_of_heap h.1, lt_of_heap h.2.1, lt_of_heap h.2.2.1, lt_of_heap h.2.2.2.1⟩

theorem unfrozen {w : World} {g : Nat} {cs : Array Value} {t : TypeId} (h : w.heap[g]? = some (.cells cs t (0, 0))) : ∀ o, w.frozen? ⟨g, o, none⟩ = false := fun o => Joins.unfrozen_of_block h o

theorem cells4 {w : World} {g : Nat} {a b c d : Value} {t : TypeId} (h : w.heap[g]? = some (.cells #[a, b, c, d] t (0, 0))) :
    w.cell? ⟨g, 0, none⟩ = some a ∧ w.cell? ⟨g, 1, none⟩ = some b ∧ w.cell? ⟨g, 2, none⟩ = some c ∧ w.cell? ⟨g, 3, none⟩ = some d :=
  ⟨Joins.cell_of_block h 0, Joins.cell_of_block h 1, Joins.cell_of_block h 2, Joins.cell_of_block h 3⟩
theorem cells6 {w : World} {g : Nat} {a b c d e f : Value} {t : TypeId} (h : w.heap[g]? = some (.cells #[a, b, c, d, e, f] t (0, 0))) :
    w.cell? ⟨g, 0, none⟩ = some a ∧ w.cell? ⟨g, 1, none⟩ = some b ∧ w.cell? ⟨g, 2, none⟩ = some c ∧ w.cell? ⟨g, 3, none⟩ = some d ∧ w.cell? ⟨g, 4, none⟩ = some e ∧ w.cell? ⟨g, 5, none⟩ = some f :=
  ⟨Joins.cell_of_block h 0, Joins.cell_of_block h 1, Joins.cell_of_block h 2, Joins.cell_of_block h 3, Joins.cell_of_block h 4, Joins.cell_of_block h 5⟩
theorem cells9 {w : World} {g : Nat} {a b c d e f i j k : Value} {t : TypeId} (h : w.heap[g]? = some (.cells #[a, b, c, d, e, f, i, j, k] t (0, 0))) :
    w.cell? ⟨g, 0, none⟩ = some a ∧ w.cell? ⟨g, 1, none⟩ = some b ∧ w.cell? ⟨g, 2, none⟩ = some c ∧ w.cell? ⟨g, 3, none⟩ = some d ∧ w.cell? ⟨g, 4, none⟩ = some e ∧ w.cell? ⟨g, 5, none⟩ = some f ∧ w.cell? ⟨g, 6, none⟩ = some i ∧ w.cell? ⟨g, 7, none⟩ = some j ∧ w.cell? ⟨g, 8, none⟩ = some k :=
  ⟨Joins.cell_of_block h 0, Joins.cell_of_block h 1, Joins.cell_of_block h 2, Joins.cell_of_block h 3, Joins.cell_of_block h 4, Joins.cell_of_block h 5, Joins.cell_of_block h 6, Joins.cell_of_block h 7, Joins.cell_of_block h 8⟩

/-- What a region that draws its order keeps: the old world below its size, as a rule for the walk. -/
theorem S_start (W : World) : Below W.heap.size W W.drew ∧ ∀ b o, b < W.heap.size → W.drew.cell? ⟨b, o, none⟩ = W.cell? ⟨b, o, none⟩ := ⟨(Below.refl _ _).drew, fun _ _ _ => rfl⟩
theorem S_step {W w w' : World} (h : Below W.heap.size W w ∧ ∀ b o, b < W.heap.size → w.cell? ⟨b, o, none⟩ = W.cell? ⟨b, o, none⟩) (hb : Below w.heap.size w w') :
    Below W.heap.size W w' ∧ ∀ b o, b < W.heap.size → w'.cell? ⟨b, o, none⟩ = W.cell? ⟨b, o, none⟩ := by
  have h2 := h.1.trans (hb.mono h.1.size)
  exact ⟨h2, fun b o hbo => h2.cell (p := ⟨b, o, none⟩) hbo⟩
theorem S_alloc {W w : World} (h : Below W.heap.size W w ∧ ∀ b o, b < W.heap.size → w.cell? ⟨b, o, none⟩ = W.cell? ⟨b, o, none⟩) (o : Obj) :
    Below W.heap.size W (w.alloc o) ∧ ∀ b o', b < W.heap.size → (w.alloc o).cell? ⟨b, o', none⟩ = W.cell? ⟨b, o', none⟩ := S_step h (below1 _ _)
theorem S_set {W w : World} (h : Below W.heap.size W w ∧ ∀ b o, b < W.heap.size → w.cell? ⟨b, o, none⟩ = W.cell? ⟨b, o, none⟩) {a : Addr} (u : Value) (ha : W.heap.size ≤ a.block) :
    Below W.heap.size W (w.setCell a u) ∧ ∀ b o', b < W.heap.size → (w.setCell a u).cell? ⟨b, o', none⟩ = W.cell? ⟨b, o', none⟩ := by
  have h2 := h.1.setCell ha u
  exact ⟨h2, fun b o hbo => h2.cell (p := ⟨b, o, none⟩) hbo⟩

theorem S_strs {W w : World} {a : Option Addr} {l : Nat} (hs : Strs W a l) (h : Below W.heap.size W w ∧ ∀ b o, b < W.heap.size → w.cell? ⟨b, o, none⟩ = W.cell? ⟨b, o, none⟩) : Strs w a l := hs.below h.1
theorem S_serv {W w : World} {a : Option Addr} (hs : ServAt W a) (h : Below W.heap.size W w ∧ ∀ b o, b < W.heap.size → w.cell? ⟨b, o, none⟩ = W.cell? ⟨b, o, none⟩) : ServAt w a := hs.below h.1
theorem S_meid {W w : World} {a : Option Addr} {m : Option Int} (hs : MeidAt W a m) (h : Below W.heap.size W w ∧ ∀ b o, b < W.heap.size → w.cell? ⟨b, o, none⟩ = W.cell? ⟨b, o, none⟩) : MeidAt w a m := hs.below h.1

theorem S_bx {w W wx : World} {cfg rn s alt : Array Value} (hs : Bx w W cfg rn s alt) (h : Below W.heap.size W wx ∧ ∀ b o, b < W.heap.size → wx.cell? ⟨b, o, none⟩ = W.cell? ⟨b, o, none⟩) : Bx w wx cfg rn s alt := hs.below h.1
theorem two_new (w : World) (a b : Obj) : ((w.alloc a).alloc b).heap[w.heap.size]? = some a ∧ ((w.alloc a).alloc b).heap[w.heap.size + 1]? = some b ∧ Below w.heap.size w ((w.alloc a).alloc b) := by
  have e1 : (w.alloc a).heap.size = w.heap.size + 1 := by simp
  refine ⟨?_, ?_, ((Below.refl _ _).alloc (Nat.le_refl _) a).alloc (by simp) b⟩
  · rw [Below.heap_alloc _ _ _ (by omega)]; exact heap_alloc_new w _
  · rw [← e1]; exact heap_alloc_new _ _
theorem block_below {w w' : World} (hb : Below w.heap.size w w') {g : Nat} {o : Obj} (h : w.heap[g]? = some o) : w'.heap[g]? = some o := (hb.block _ (lt_of_heap h)).trans h

/-- The answer lies in a block that the region made last. -/
theorem fin_new {W wv : World} {B : Nat} {pp : Option Addr} {D : Int} (hb : Below W.heap.size W wv) (hp : Per B wv pp D) (cs : Array Value) :
    (wv.alloc (.cells cs 45)).heap[wv.heap.size]? = some (.cells cs 45 (0, 0)) ∧ Per 0 (wv.alloc (.cells cs 45)) pp D ∧ Below W.heap.size W (wv.alloc (.cells cs 45)) :=
  ⟨heap_alloc_new _ _, (hp.below (below1 _ _)).mono (Nat.zero_le _), hb.trans ((below1 wv _).mono hb.size)⟩
/-- The answer lies in a block that the region made ahead of the call. -/
theorem fin_set {W wv : World} {B G : Nat} {pp : Option Addr} {D : Int} {z0 z1 z2 z3 : Value} (hb : Below W.heap.size W wv) (hp : Per B wv pp D) (hG : wv.heap[G]? = some (.cells #[z0, z1, z2, z3] 45 (0, 0))) (h1 : W.heap.size ≤ G) (h2 : G < B) (a b c d : Value) :
    ((((wv.setCell ⟨G, 0, none⟩ a).setCell ⟨G, 1, none⟩ b).setCell ⟨G, 2, none⟩ c).setCell ⟨G, 3, none⟩ d).heap[G]? = some (.cells #[a, b, c, d] 45 (0, 0)) ∧
      Per 0 ((((wv.setCell ⟨G, 0, none⟩ a).setCell ⟨G, 1, none⟩ b).setCell ⟨G, 2, none⟩ c).setCell ⟨G, 3, none⟩ d) pp D ∧ Below W.heap.size W ((((wv.setCell ⟨G, 0, none⟩ a).setCell ⟨G, 1, none⟩ b).setCell ⟨G, 2, none⟩ c).setCell ⟨G, 3, none⟩ d) :=
  ⟨Joins.block_setCell (Joins.block_setCell (Joins.block_setCell (Joins.block_setCell hG a) b) c) d, ((((hp.set a h2).set b h2).set c h2).set d h2).mono (Nat.zero_le _), (((hb.setCell h1 a).setCell h1 b).setCell h1 c).setCell h1 d⟩

theorem S_set4 {W w : World} {G : Nat} {a b c d : Value} (h : Below W.heap.size W w ∧ ∀ b o, b < W.heap.size → w.cell? ⟨b, o, none⟩ = W.cell? ⟨b, o, none⟩) (h1 : W.heap.size ≤ G) :
    Below W.heap.size W ((((w.setCell ⟨G, 0, none⟩ a).setCell ⟨G, 1, none⟩ b).setCell ⟨G, 2, none⟩ c).setCell ⟨G, 3, none⟩ d) ∧ ∀ b' o', b' < W.heap.size → ((((w.setCell ⟨G, 0, none⟩ a).setCell ⟨G, 1, none⟩ b).setCell ⟨G, 2, none⟩ c).setCell ⟨G, 3, none⟩ d).cell? ⟨b', o', none⟩ = W.cell? ⟨b', o', none⟩ :=
  S_set (S_set (S_set (S_set h a h1) b h1) c h1) d h1
theorem S_keeps {W w : World} {x : Addr} {v : Value} (h : Below W.heap.size W w ∧ ∀ b o, b < W.heap.size → w.cell? ⟨b, o, none⟩ = W.cell? ⟨b, o, none⟩) (hv : W.cell? x = some v) : w.cell? x = some v := keeps h.1 hv

theorem blk4 {wv : World} {G : Nat} {z0 z1 z2 z3 : Value} (hG : wv.heap[G]? = some (.cells #[z0, z1, z2, z3] 45 (0, 0))) (a b c d : Value) :
    ((((wv.setCell ⟨G, 0, none⟩ a).setCell ⟨G, 1, none⟩ b).setCell ⟨G, 2, none⟩ c).setCell ⟨G, 3, none⟩ d).heap[G]? = some (.cells #[a, b, c, d] 45 (0, 0)) :=
  Joins.block_setCell (Joins.block_setCell (Joins.block_setCell (Joins.block_setCell hG a) b) c) d
theorem per4 {wv : World} {B G : Nat} {pp : Option Addr} {D : Int} {a b c d : Value} (hp : Per B wv pp D) (h2 : G < B) :
    Per 0 ((((wv.setCell ⟨G, 0, none⟩ a).setCell ⟨G, 1, none⟩ b).setCell ⟨G, 2, none⟩ c).setCell ⟨G, 3, none⟩ d) pp D :=
  ((((hp.set a h2).set b h2).set c h2).set d h2).mono (Nat.zero_le _)
theorem close19 {w W X : World} {M f : Nat} {o1 o2 : Obj} {v : Value} {cfg rn s alt : Array Value} (h : Below W.heap.size W X ∧ ∀ b o, b < W.heap.size → X.cell? ⟨b, o, none⟩ = W.cell? ⟨b, o, none⟩)
    (hR : W.heap[M]? = some o1) (hS : W.heap[M + 1]? = some o2) (hf : W.cell? ⟨f, 2, none⟩ = some v) (hx : Bx w W cfg rn s alt) :
    X.heap[M]? = some o1 ∧ X.heap[M + 1]? = some o2 ∧ X.cell? ⟨f, 2, none⟩ = some v ∧ Bx w X cfg rn s alt :=
  ⟨block_below h.1 hR, block_below h.1 hS, keeps h.1 hf, hx.below h.1⟩
theorem close20 {w W X : World} {ba B : Nat} {o1 : Obj} {pa : Option Addr} {D : Int} {cfg rn s alt : Array Value} (h : Below W.heap.size W X ∧ ∀ b o, b < W.heap.size → X.cell? ⟨b, o, none⟩ = W.cell? ⟨b, o, none⟩)
    (hA : W.heap[ba]? = some o1) (hp : Per B W pa D) (hx : Bx w W cfg rn s alt) :
    X.heap[ba]? = some o1 ∧ Per B X pa D ∧ Bx w X cfg rn s alt :=
  ⟨block_below h.1 hA, hp.below h.1, hx.below h.1⟩
theorem vld_no (ok : Bool) (e1 e2 : Int) (m1 m2 : Option Int) (h : ¬ den ok e1 e2 m1 m2 = 0) : vld ok e1 e2 m1 m2 = false := by
  unfold den at h
  unfold vld
  cases ok with
  | false => rfl
  | true =>
    by_cases he : e2 = e1
    · cases m1 with
      | none => simp
      | some a =>
        cases m2 with
        | none => simp
        | some b =>
          by_cases hn : b = a
          · simp [he, hn] at h
          · simp [hn]
    · simp [he]
theorem Per.some {B : Nat} {w : World} {p : Option Addr} {d : Int} (h : Per B w p d) (hd : d = 0) : ∃ b, p = Option.some ⟨b, 0, Option.none⟩ := by
  rcases h with ⟨h, _⟩ | ⟨_, b, _, hp, _⟩
  · exact absurd hd h
  · exact ⟨b, hp⟩
theorem Per.none {B : Nat} {w : World} {p : Option Addr} {d : Int} (h : Per B w p d) (hd : ¬ d = 0) : p = Option.none := by
  rcases h with ⟨_, hp⟩ | ⟨h, _⟩
  · exact hp
  · exact absurd h hd

set_option maxHeartbeats 1000000 in
theorem same_any {B1 B2 : Nat} (p1 p2 : Option Addr) (d : Int) (w : World) (h1 : Per B1 w p1 d) (h2 : Per B2 w p2 d) :
    Calls Try.prog 14 #[.pointer p1, .pointer p2] w fun e w' => e = .returned (.bool true) ∧ ∃ n, w' = w.drewN n := by
  rcases h1 with ⟨hd, rfl⟩ | ⟨hd, b1, _, rfl, c0, c1⟩
  · rcases h2 with ⟨_, rfl⟩ | ⟨hd', _⟩
    · clear hd
      go_enter Try.func14, Try.ntmps14
      go_wp2
      go_ret
      exact ⟨rfl, 0, rfl⟩
    · exact absurd hd' hd
  · rcases h2 with ⟨hd', _⟩ | ⟨_, b2, _, rfl, c2, c3⟩
    · exact absurd hd hd'
    · clear hd
      go_enter Try.func14, Try.ntmps14
      go_wp2
      go_quiet (fail)
      go_wp2
      go_ret
      exact ⟨rfl, _, rfl⟩
end Go.Proofs.Qxb6616234a
