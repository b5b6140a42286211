/-
  The main walk.
-/
import Derived.Test.Qxb6617630aSurv
import Derived.Deep.QuietTactic
import Derived.BigQuiet
namespace Go.Proofs.Qxb6617630a
open Go.RowKit

set_option maxRecDepth 100000 in
set_option maxHeartbeats 4000000 in
theorem walk (num : Int) (a : Option Addr) (n cap : Nat) (mi ml : Option Nat) (x y : ByteArray) (p q : Int) (ss : List ByteArray) (L : ByteArray → Bool) (ni nl : Nat) (w : World)
    (hn : ss.length = n) (hcap : n ≤ cap) (hL : Lst w a ss) (hx : x.size ≤ maxLen) (hy : y.size ≤ maxLen)
    (hin : ∀ ty, (Builtin.len_ #[24] ty #[.map mi]).run Try.prog w = .ok (.int .i64 ni) w) (hlo : ∀ ty, (Builtin.len_ #[24] ty #[.map ml]).run Try.prog w = .ok (.int .i64 nl) w) (hk : Look w (.map ml) L) :
    Calls Try.prog 3 #[.int .u64 num, .slice a n cap, .map mi, .map ml, .string x, .int .i64 p, .string y, .int .i64 q] w fun e w' => e = .returned (.bool true) ∧ Below w.heap.size w w' := by
  have HX : Hid (x.size ≤ maxLen) := hx
  have HY : Hid (y.size ≤ maxLen) := hy
  have HN : Hid (ss.length = n) := hn
  clear hx hy hn
  by_cases c1 : 4096 < n
  · go_enter Try.func3, Try.ntmps3
    go_wp2
    go_ret
    exact ⟨rfl, Below.refl _ _⟩
  have d1 : decide ((4096 : Int) < (n : Int)) = false := by simp; omega
  have b1 : n ≤ 4096 := by omega
  by_cases c2 : 4096 < ni
  · go_enter Try.func3, Try.ntmps3
    go_wp2
    go_ret
    exact ⟨rfl, Below.refl _ _⟩
  have d2 : decide ((4096 : Int) < (ni : Int)) = false := by simp; omega
  by_cases c3 : 4096 < nl
  · go_enter Try.func3, Try.ntmps3
    go_wp2
    go_ret
    exact ⟨rfl, Below.refl _ _⟩
  have d3 : decide ((4096 : Int) < (nl : Int)) = false := by simp; omega
  by_cases c4 : 65536 < x.size
  · go_enter Try.func3, Try.ntmps3
    go_wp2
    go_ret
    exact ⟨rfl, Below.refl _ _⟩
  have d4 : decide ((65536 : Int) < (x.size : Int)) = false := by simp; omega
  by_cases c5 : 65536 < y.size
  · go_enter Try.func3, Try.ntmps3
    go_wp2
    go_ret
    exact ⟨rfl, Below.refl _ _⟩
  have d5 : decide ((65536 : Int) < (y.size : Int)) = false := by simp; omega
  go_enter Try.func3, Try.ntmps3
  go_wp2
  go_loop [17, 18] (fun t i => ∃ (k : Nat) (z : Int), k ≤ n ∧ i = .int .i64 k ∧ t = .int .i64 z) (fun _ i => n - (intOf i).toNat)
  case atStart => exact ⟨0, _, Nat.zero_le _, rfl, rfl⟩
  case round =>
    obtain ⟨k, z, hkn, rfl, rfl⟩ := hrel
    clear hin hlo
    by_cases hlt : k < n
    · obtain ⟨b, off, rfl, hc, _, _⟩ := hL.get (k := k) (by have := HN.out; omega)
      go_wp2
      all_goals first | (go_ret; exact ⟨rfl, Below.refl _ _⟩) | skip
      go_round
      case rel => exact ⟨k + 1, _, by omega, by go_num, rfl⟩
      case measure => simp [intOf]; omega
    · by_cases p1 : p < 0
      · go_wp2
        go_ret
        exact ⟨rfl, Below.refl _ _⟩
      have e1 : decide (p < 0) = false := by simpa using p1
      by_cases p2 : (n : Int) < p
      · go_wp2
        go_ret
        exact ⟨rfl, Below.refl _ _⟩
      have e2 : decide ((n : Int) < p) = false := by simpa using p2
      by_cases q1 : q < 0
      · go_wp2
        go_ret
        exact ⟨rfl, Below.refl _ _⟩
      have e3 : decide (q < 0) = false := by simpa using q1
      by_cases q2 : (n : Int) + 1 < q
      · go_wp2
        go_ret
        exact ⟨rfl, Below.refl _ _⟩
      have e4 : decide ((n : Int) + 1 < q) = false := by simpa using q2
      have l1 := hk w (Below.refl _ _) x HX.out
      have l2 := hk w (Below.refl _ _) y HY.out
      cases hlx : L x with
      | true =>
        rw [hlx] at l1
        go_wp2
        go_ret
        exact ⟨rfl, Below.refl _ _⟩
      | false =>
        rw [hlx] at l1
        cases hly : L y with
        | false =>
          rw [hly] at l2
          go_wp2
          go_ret
          exact ⟨rfl, Below.refl _ _⟩
        | true =>
          rw [hly] at l2
          obtain ⟨P, rfl⟩ : ∃ P : Nat, p = (P : Int) := ⟨p.toNat, by omega⟩
          obtain ⟨Q, rfl⟩ : ∃ Q : Nat, q = (Q : Int) := ⟨q.toNat, by omega⟩
          have hP : P ≤ n := by omega
          have hQ : Q ≤ n + 1 := by omega
          have HLX : Hid (L x = false) := hlx
          have HLY : Hid (L y = true) := hly
          clear hlx hly p1 p2 q1 q2
          go_wp2_with fail
          obtain ⟨na, hna, hp0, hpl, hg0⟩ := key L ss P Q x y HLX.out HLY.out
          obtain ⟨Bs, hBs⟩ : ∃ Bs, surv L ss = Bs := ⟨_, rfl⟩
          have hBz : ∀ s ∈ Bs, s.size ≤ maxLen := by rw [← hBs]; exact fun s hs => hL.1 s (List.mem_filter.1 hs).1
          have hBl : Bs.length ≤ n := by rw [← hBs]; exact Nat.le_trans (surv_le _ _) (by have := HN.out; omega)
          rw [hBs] at hna hp0 hpl hg0
          obtain ⟨nb, hnb⟩ : ∃ nb, Bs.length = nb := ⟨_, rfl⟩
          obtain ⟨ng, hng⟩ : ∃ ng, (ins Bs na x).length = ng := ⟨_, rfl⟩
          have hgl := ins_length Bs na x hna
          have hgb : ng = nb + 1 := by omega
          have hne : ((ng : Int) != (nb : Int) + 1) = false := by simp; omega
          have hab : na ≤ nb := by omega
          have hb4 : nb ≤ 4096 := by omega
          have hgt : nb < ng := by omega
          have HB : Hid (surv L ss = Bs) := hBs
          have HBL : Hid (Bs.length = nb) := hnb
          have HG : Hid (surv L (ins (ins ss P x) Q y) = ins Bs na x) := hg0
          have HGL : Hid ((ins Bs na x).length = ng) := hng
          have HP : Hid (surv L (ss.take P) = Bs.take na) := hp0
          have HPL : Hid ((Bs.take na).length = na) := hpl
          have hgz := ins_sizes (p := na) hBz HX.out
          clear hBs hnb hng hgl hgb hg0 hp0 hpl hBl
          refine (insert_any a n cap P x ss _ HN.out (by omega) hP hL HX.out).mono ?_
          rintro e w1 ⟨g1, rfl, hL1, hb1⟩
          go_wp2_with fail
          refine (insert_any (some ⟨g1, 0, none⟩) (n + 1) (n + 1) Q y (ins ss P x) _ (by rw [ins_length ss P x (by have := HN.out; omega), HN.out]) (by omega) hQ hL1 HY.out).mono ?_
          rintro e w2 ⟨g2, rfl, hL2, hb2⟩
          have hB2 : Below w.heap.size w w2 := hb1.trans (hb2.mono hb1.size)
          clear hL1 hb1 hb2
          go_wp2_with fail
          refine (zzSurv_any num a n cap mi ml ss L _ HN.out (by omega) (hL.below hB2) (hk.below hB2)).mono ?_
          rintro e w3 ⟨ab, cb, he, hLb, hb3⟩
          rw [HB.out, HBL.out] at he
          rw [HB.out] at hLb
          subst he
          have hB3 : Below w.heap.size w w3 := hB2.trans (hb3.mono hB2.size)
          have hL2' := hL2.below hb3
          clear hL2 hb3 hB2
          go_wp2_with fail
          refine (zzSurv_any num a P cap mi ml (ss.take P) L _ (by have := HN.out; simp; omega) (by omega) ((hL.take P (by have := HN.out; omega)).below hB3) (hk.below hB3)).mono ?_
          rintro e w4 ⟨ap, cp, he, hLp, hb4⟩
          rw [HP.out, HPL.out] at he
          rw [HP.out] at hLp
          subst he
          have hB4 : Below w.heap.size w w4 := hB3.trans (hb4.mono hB3.size)
          have hLb' := hLb.below hb4
          have hL2'' := hL2'.below hb4
          clear hL2' hb4 hB3 hLb
          go_wp2_with fail
          refine (zzSurv_any num (some ⟨g2, 0, none⟩) (n + 1 + 1) (n + 1 + 1) mi ml (ins (ins ss P x) Q y) L _ (by rw [ins_length _ Q y (by rw [ins_length ss P x (by have := HN.out; omega)]; have := HN.out; omega), ins_length ss P x (by have := HN.out; omega), HN.out]) (by omega) hL2'' (hk.below hB4)).mono ?_
          rintro e w5 ⟨ag, cg, he, hLg, hb5⟩
          rw [HG.out, HGL.out] at he
          rw [HG.out] at hLg
          subst he
          have hB5 : Below w.heap.size w w5 := hB4.trans (hb5.mono hB4.size)
          have hLb5 := hLb'.below hb5
          have hLp5 := hLp.below hb5
          clear hL2'' hb5 hB4 hLb' hLp l1 l2
          go_wp2
          go_loopw [25] (fun i wr => ∃ k : Nat, k ≤ na ∧ i = .int .i64 k ∧ Below w5.heap.size w5 wr) (fun i _ => na - (intOf i).toNat)
          case atStart => exact ⟨0, Nat.zero_le _, rfl, Below.refl _ _⟩
          case round =>
            obtain ⟨k, hka, rfl, hbw⟩ := hrel
            by_cases hlt : k < na
            · obtain ⟨b1, o1, rfl, hc1, _, _⟩ := (hLp5.below hbw).get (k := k) (by have := HPL.out; omega)
              obtain ⟨b2, o2, rfl, hc2, _, _⟩ := (hLb5.below hbw).get (k := k) (by have := HBL.out; omega)
              rw [at_take Bs na k hlt] at hc1
              go_wp2
              go_quiet (fail)
              go_wp2
              go_roundw
              case rel => exact ⟨k + 1, by omega, by go_num, below_drewN hbw _⟩
              case measure => simp [intOf]; omega
            · have hB6 : Below w.heap.size w wr := hB5.trans (hbw.mono hB5.size)
              have hLb6 := hLb5.below hbw
              have hLg6 := hLg.below hbw
              clear hB5 hLb5 hLg hLp5 hbw
              go_wp2
              go_loopw [26] (fun i wx => ∃ k : Nat, k ≤ na ∧ i = .int .i64 k ∧ Below wr.heap.size wr wx) (fun i _ => na - (intOf i).toNat)
              case atStart => exact ⟨0, Nat.zero_le _, rfl, Below.refl _ _⟩
              case round =>
                obtain ⟨k, hka, rfl, hbw⟩ := hrel
                by_cases hlt : k < na
                · obtain ⟨b1, o1, rfl, hc1, _, _⟩ := (hLg6.below hbw).get (k := k) (by have := HGL.out; omega)
                  obtain ⟨b2, o2, rfl, hc2, _, _⟩ := (hLb6.below hbw).get (k := k) (by have := HBL.out; omega)
                  rw [ins_lt Bs na x (by have := HBL.out; omega) k hlt] at hc1
                  go_wp2
                  go_quiet (fail)
                  go_wp2
                  go_roundw
                  case rel => exact ⟨k + 1, by omega, by go_num, below_drewN hbw _⟩
                  case measure => simp [intOf]; omega
                · have hB7 := hB6.trans (hbw.mono hB6.size)
                  have hLb7 := hLb6.below hbw
                  have hLg7 := hLg6.below hbw
                  clear hB6 hLb6 hLg6 hbw
                  obtain ⟨b1, o1, rfl, hc1, _, _⟩ := hLg7.get (k := na) (by have := HGL.out; omega)
                  rw [ins_at Bs na x (by have := HBL.out; omega)] at hc1
                  go_wp2
                  clear hc1
                  go_loopw [27] (fun i wx => ∃ k : Nat, na ≤ k ∧ k ≤ nb ∧ i = .int .i64 k ∧ Below wr.heap.size wr wx) (fun i _ => nb - (intOf i).toNat)
                  case atStart => exact ⟨na, Nat.le_refl _, hab, rfl, Below.refl _ _⟩
                  case round =>
                    obtain ⟨k, hak, hkb, rfl, hbw⟩ := hrel
                    by_cases hlt : k < nb
                    · obtain ⟨b3, o3, he3, hc1, _, _⟩ := (hLg7.below hbw).get (k := k + 1) (by have := HGL.out; omega)
                      obtain ⟨b2, o2, rfl, hc2, _, _⟩ := (hLb7.below hbw).get (k := k) (by have := HBL.out; omega)
                      simp only [Option.some.injEq, Addr.mk.injEq, and_true] at he3
                      obtain ⟨rfl, rfl⟩ := he3
                      rw [ins_gt Bs na x (by have := HBL.out; omega) k hak] at hc1
                      go_wp2
                      go_quiet (fail)
                      go_wp2
                      go_roundw
                      case rel => exact ⟨k + 1, by omega, by omega, by go_num, below_drewN hbw _⟩
                      case measure => simp [intOf]; omega
                    · have hB8 := hB7.trans (hbw.mono hB7.size)
                      go_wp2
                      go_ret
                      exact ⟨rfl, hB8⟩
end Go.Proofs.Qxb6617630a
