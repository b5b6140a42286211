/-
  The main walk.
-/
import Derived.Test.Qxb6616234aBoxes
import Derived.Deep.DeepCutAuto
namespace Go.Proofs.Qxb6616234a
open Go.RowKit

set_option maxRecDepth 100000 in
set_option maxHeartbeats 8000000 in
theorem walk (a0 a1 a2 a3 p1 p2 q1 q2 : Option Addr) (l0 c0 l1 c1 l2 c2 l3 c3 : Nat) (code ct oc e1 r2 r3 r4 e2 ct2 t4 t5 t6 : Int) (m1 m2 m3 m4 : ByteArray) (ok : Bool) (n1 n2 : Option Int) (w : World)
    (h0 : Strs w a0 l0) (h1 : Strs w a1 l1) (h2 : Strs w a2 l2) (h3 : Strs w a3 l3) (hq1 : ServAt w q1) (hq2 : ServAt w q2) (hp1 : MeidAt w p1 n1) (hp2 : MeidAt w p2 n2) :
    Calls Try.prog 3 #[.agg #[.slice a0 l0 c0, .slice a1 l1 c1, .int .u8 code, .int .i64 ct], .int .u8 oc, .agg #[.int .u32 e1, .string m1, .int .u32 r2, .int .u8 r3, .int .u8 r4, .pointer p1],
      .agg #[.string m2, .int .u32 e2, .pointer p2, .pointer q1], .bool ok, .agg #[.slice a2 l2 c2, .slice a3 l3 c3, .int .i64 ct2, .string m3, .int .u32 t4, .int .u8 t5, .int .u8 t6, .string m4, .pointer q2]] w
      fun e w' => e = .returned (.bool true) ∧ Below w.heap.size w w' := by
  go_enter Try.func3, Try.ntmps3
  go_wp2_with fail
  refine (bytes_any a0 a1 a2 a3 l0 c0 l1 c1 l2 c2 l3 c3 _ _ _ _ _ _ _ _ _ _ _ _ _ _ _ m1 m2 m3 m4 q1 q2 _ (h0.below (below4 _ _ _ _ _)) (h1.below (below4 _ _ _ _ _)) (h2.below (below4 _ _ _ _ _)) (h3.below (below4 _ _ _ _ _)) (hq1.below (below4 _ _ _ _ _)) (hq2.below (below4 _ _ _ _ _))).mono ?_
  rintro e w1 ⟨bb, rfl, hbb, hb1⟩
  have hx1 := (Bx.start w _ _ _ _).below hb1
  cases bb with
  | false =>
    go_wp2
    go_ret
    exact ⟨rfl, hx1.2.2.2.2⟩
  | true =>
    obtain ⟨L0, L1, L2, L3⟩ := hbb rfl
    clear hb1 hbb
    go_upto_region 3 with fail
    go_cut [35] (fun t wx => ∃ b, t = .bool b ∧ Bx w wx #[.slice a0 l0 c0, .slice a1 l1 c1, .int .u8 code, .int .i64 ct] #[.int .u32 e1, .string m1, .int .u32 r2, .int .u8 r3, .int .u8 r4, .pointer p1] #[.string m2, .int .u32 e2, .pointer p2, .pointer q1] #[.slice a2 l2 c2, .slice a3 l3 c3, .int .i64 ct2, .string m3, .int .u32 t4, .int .u8 t5, .int .u8 t6, .string m4, .pointer q2])
    case first =>
      obtain ⟨z0, z1, z2, z3⟩ := hx1.lt
      obtain ⟨g0, g1, g2, g3⟩ := cells4 hx1.1
      obtain ⟨i0, i1, i2, i3, i4, i5⟩ := cells6 hx1.2.1
      obtain ⟨j0, j1, j2, j3⟩ := cells4 hx1.2.2.1
      obtain ⟨k0, k1, k2, k3, k4, k5, k6, k7, k8⟩ := cells9 hx1.2.2.2.1
      have s0 := h0.below hx1.2.2.2.2
      have s1 := h1.below hx1.2.2.2.2
      have s2 := h2.below hx1.2.2.2.2
      have s3 := h3.below hx1.2.2.2.2
      have v1 := hq1.below hx1.2.2.2.2
      have v2 := hq2.below hx1.2.2.2.2
      have HX : Hid _ := hx1
      clear hx1 h0 h1 h2 h3 hq1 hq2 hp1 hp2
      go_region_held3 (fun w' => Below w1.heap.size w1 w' ∧ ∀ b o, b < w1.heap.size → w'.cell? ⟨b, o, none⟩ = w1.cell? ⟨b, o, none⟩)
        (first | exact S_start _ | exact S_step (by assumption) hbK)
        (first | (go_at_call 8; refine (sizeCfg_any _ _ _ _ _ _ _ _ _ _ (by omega) ?_ ?_).mono ?_; (exact S_strs s0 (by assumption)); (exact S_strs s1 (by assumption)); rintro e wk ⟨r, rfl, r0, r1, hbK⟩) | (go_at_call 7; refine (sizeRN_any _ _ _ _ _ _ _ _ (by omega)).mono ?_; rintro e wk ⟨r, rfl, r0, r1, hbK⟩) | (go_at_call 6; refine (sizeSub_any _ _ _ _ _ _ (by omega) ?_).mono ?_; (exact S_serv v1 (by assumption)); rintro e wk ⟨r, rfl, r0, r1, hbK⟩) | (go_at_call 5; refine (sizeAlt_any _ _ _ _ _ _ _ _ _ _ _ _ _ _ _ (by omega) ?_ ?_ ?_).mono ?_; (exact S_strs s2 (by assumption)); (exact S_strs s3 (by assumption)); (exact S_serv v2 (by assumption)); rintro e wk ⟨r, rfl, r0, r1, hbK⟩))
      all_goals go_wp2_with fail
      all_goals go_meet
      all_goals exact ⟨_, rfl, S_bx HX.out (by assumption)⟩
    case rest =>
      obtain ⟨b, rfl, hx⟩ := hcut
      clear hx1
      cases b with
      | true =>
        go_wp2
        go_ret
        exact ⟨rfl, hx.2.2.2.2⟩
      | false =>
        go_upto_region 5 with fail
        go_cut [] (fun wx => ∃ A0 N0 C0, Bx w wx #[.slice A0 N0 C0, .slice a1 l1 c1, .int .u8 code, .int .i64 ct] #[.int .u32 e1, .string m1, .int .u32 r2, .int .u8 r3, .int .u8 r4, .pointer p1] #[.string m2, .int .u32 e2, .pointer p2, .pointer q1] #[.slice a2 l2 c2, .slice a3 l3 c3, .int .i64 ct2, .string m3, .int .u32 t4, .int .u8 t5, .int .u8 t6, .string m4, .pointer q2])
        case first =>
          obtain ⟨z0, z1, z2, z3⟩ := hx.lt
          obtain ⟨g0, g1, g2, g3⟩ := cells4 hx.1
          obtain ⟨k0, k1, k2, k3, k4, k5, k6, k7, k8⟩ := cells9 hx.2.2.2.1
          have sK := h0.below hx.2.2.2.2
          go_wp2_with (go_at_call 9; refine (clone_any _ _ _ _ L0 sK).mono ?_; rintro e wk ⟨A, N, C, rfl, hbK⟩; have hy := hx.below hbK; have hfy := unfrozen hy.1; obtain ⟨y0, y1, y2, y3⟩ := cells4 hy.1)
          go_meet
          exact ⟨A, N, C, hy.setCfg 0 (.slice A N C)⟩
        case rest =>
          clear hx
          obtain ⟨A0, N0, C0, hx⟩ := hcut
          go_upto_region 6 with fail
          go_cut [] (fun wx => ∃ A0 A1 N0 C0 N1 C1, Bx w wx #[.slice A0 N0 C0, .slice A1 N1 C1, .int .u8 code, .int .i64 ct] #[.int .u32 e1, .string m1, .int .u32 r2, .int .u8 r3, .int .u8 r4, .pointer p1] #[.string m2, .int .u32 e2, .pointer p2, .pointer q1] #[.slice a2 l2 c2, .slice a3 l3 c3, .int .i64 ct2, .string m3, .int .u32 t4, .int .u8 t5, .int .u8 t6, .string m4, .pointer q2])
          case first =>
            obtain ⟨z0, z1, z2, z3⟩ := hx.lt
            obtain ⟨g0, g1, g2, g3⟩ := cells4 hx.1
            obtain ⟨k0, k1, k2, k3, k4, k5, k6, k7, k8⟩ := cells9 hx.2.2.2.1
            have sK := h1.below hx.2.2.2.2
            go_wp2_with (go_at_call 9; refine (clone_any _ _ _ _ L1 sK).mono ?_; rintro e wk ⟨A, N, C, rfl, hbK⟩; have hy := hx.below hbK; have hfy := unfrozen hy.1; obtain ⟨y0, y1, y2, y3⟩ := cells4 hy.1)
            go_meet
            exact ⟨A0, A, N0, C0, N, C, hy.setCfg 1 (.slice A N C)⟩
          case rest =>
            clear hx
            obtain ⟨A0, A1, N0, C0, N1, C1, hx⟩ := hcut
            go_upto_region 7 with fail
            go_cut [] (fun wx => ∃ A0 A1 A2 N0 C0 N1 C1 N2 C2, Bx w wx #[.slice A0 N0 C0, .slice A1 N1 C1, .int .u8 code, .int .i64 ct] #[.int .u32 e1, .string m1, .int .u32 r2, .int .u8 r3, .int .u8 r4, .pointer p1] #[.string m2, .int .u32 e2, .pointer p2, .pointer q1] #[.slice A2 N2 C2, .slice a3 l3 c3, .int .i64 ct2, .string m3, .int .u32 t4, .int .u8 t5, .int .u8 t6, .string m4, .pointer q2])
            case first =>
              obtain ⟨z0, z1, z2, z3⟩ := hx.lt
              obtain ⟨g0, g1, g2, g3⟩ := cells4 hx.1
              obtain ⟨k0, k1, k2, k3, k4, k5, k6, k7, k8⟩ := cells9 hx.2.2.2.1
              have sK := h2.below hx.2.2.2.2
              go_wp2_with (go_at_call 9; refine (clone_any _ _ _ _ L2 sK).mono ?_; rintro e wk ⟨A, N, C, rfl, hbK⟩; have hy := hx.below hbK; have hfy := unfrozen hy.2.2.2.1; obtain ⟨y0, y1, y2, y3, y4, y5, y6, y7, y8⟩ := cells9 hy.2.2.2.1)
              go_meet
              exact ⟨A0, A1, A, N0, C0, N1, C1, N, C, hy.setAlt 0 (.slice A N C)⟩
            case rest =>
              clear hx
              obtain ⟨A0, A1, A2, N0, C0, N1, C1, N2, C2, hx⟩ := hcut
              go_upto_region 8 with fail
              go_cut [] (fun wx => ∃ A0 A1 A2 A3 N0 C0 N1 C1 N2 C2 N3 C3, Bx w wx #[.slice A0 N0 C0, .slice A1 N1 C1, .int .u8 code, .int .i64 ct] #[.int .u32 e1, .string m1, .int .u32 r2, .int .u8 r3, .int .u8 r4, .pointer p1] #[.string m2, .int .u32 e2, .pointer p2, .pointer q1] #[.slice A2 N2 C2, .slice A3 N3 C3, .int .i64 ct2, .string m3, .int .u32 t4, .int .u8 t5, .int .u8 t6, .string m4, .pointer q2])
              case first =>
                obtain ⟨z0, z1, z2, z3⟩ := hx.lt
                obtain ⟨g0, g1, g2, g3⟩ := cells4 hx.1
                obtain ⟨k0, k1, k2, k3, k4, k5, k6, k7, k8⟩ := cells9 hx.2.2.2.1
                have sK := h3.below hx.2.2.2.2
                go_wp2_with (go_at_call 9; refine (clone_any _ _ _ _ L3 sK).mono ?_; rintro e wk ⟨A, N, C, rfl, hbK⟩; have hy := hx.below hbK; have hfy := unfrozen hy.2.2.2.1; obtain ⟨y0, y1, y2, y3, y4, y5, y6, y7, y8⟩ := cells9 hy.2.2.2.1)
                go_meet
                exact ⟨A0, A1, A2, A, N0, C0, N1, C1, N2, C2, N, C, hy.setAlt 1 (.slice A N C)⟩
              case rest =>
                clear hx
                obtain ⟨A0, A1, A2, A3, N0, C0, N1, C1, N2, C2, N3, C3, hx⟩ := hcut
                go_upto_region 9 with fail
                go_cut [13] (fun t wx => ∃ g, t = .pointer (some ⟨g, 0, none⟩) ∧ wx.cell? ⟨g, 2, none⟩ = some (.int .u8 code) ∧ Bx w wx #[.slice A0 N0 C0, .slice A1 N1 C1, .int .u8 code, .int .i64 ct] #[.int .u32 e1, .string m1, .int .u32 r2, .int .u8 r3, .int .u8 r4, .pointer p1] #[.string m2, .int .u32 e2, .pointer p2, .pointer q1] #[.slice A2 N2 C2, .slice A3 N3 C3, .int .i64 ct2, .string m3, .int .u32 t4, .int .u8 t5, .int .u8 t6, .string m4, .pointer q2])
                case first =>
                  obtain ⟨g0, g1, g2, g3⟩ := cells4 hx.1
                  go_wp2_with (go_at_call 10; refine (new_any _ _ _ _ _ _ _ _ _).mono ?_; rintro e wk ⟨g, rfl, hg, hbK⟩)
                  go_meet
                  exact ⟨g, rfl, hg, hx.below hbK⟩
                case rest =>
                  clear hx
                  obtain ⟨g, rfl, hg, hx⟩ := hcut
                  go_upto_region 10 with fail
                  go_cut [14] (fun t wx => ∃ f, t = .pointer (some ⟨f, 0, none⟩) ∧ wx.cell? ⟨f, 2, none⟩ = some (.int .u8 oc) ∧ wx.cell? ⟨g, 2, none⟩ = some (.int .u8 code) ∧ Bx w wx #[.slice A0 N0 C0, .slice A1 N1 C1, .int .u8 code, .int .i64 ct] #[.int .u32 e1, .string m1, .int .u32 r2, .int .u8 r3, .int .u8 r4, .pointer p1] #[.string m2, .int .u32 e2, .pointer p2, .pointer q1] #[.slice A2 N2 C2, .slice A3 N3 C3, .int .i64 ct2, .string m3, .int .u32 t4, .int .u8 t5, .int .u8 t6, .string m4, .pointer q2])
                  case first =>
                    obtain ⟨k0, k1, k2, k3, k4, k5, k6, k7, k8⟩ := cells9 hx.2.2.2.1
                    go_wp2_with (go_at_call 10; refine (new_any _ _ _ _ _ _ _ _ _).mono ?_; rintro e wk ⟨f, rfl, hf, hbK⟩)
                    go_meet
                    exact ⟨f, rfl, hf, keeps hbK hg, hx.below hbK⟩
                  case rest =>
                    clear hx hg
                    obtain ⟨f, rfl, hf, hg, hx⟩ := hcut
                    obtain ⟨z0, z1, z2, z3⟩ := hx.lt
                    obtain ⟨i0, i1, i2, i3, i4, i5⟩ := cells6 hx.2.1
                    obtain ⟨j0, j1, j2, j3⟩ := cells4 hx.2.2.1
                    obtain ⟨k0, k1, k2, k3, k4, k5, k6, k7, k8⟩ := cells9 hx.2.2.2.1
                    obtain ⟨y0, y1, y2, y3⟩ := past z3
                    obtain ⟨x0, x1, x2, x3⟩ := past z2
                    go_upto_region 18 with fail
                    go_cut [15, 16] (fun x15 x16 wx => ∃ M, x15 = .pointer (some ⟨M, 0, none⟩) ∧ x16 = .pointer (some ⟨M + 1, 0, none⟩) ∧ wx.heap[M]? = some (.cells #[.int .u32 e1, .string m3, .int .u32 t4, .int .u8 t5, .int .u8 t6, .pointer p1] 28 (0, 0)) ∧ wx.heap[M + 1]? = some (.cells #[.string m4, .int .u32 e2, .pointer p2, .pointer q2] 31 (0, 0)) ∧ wx.cell? ⟨f, 2, none⟩ = some (.int .u8 oc) ∧ wx.cell? ⟨g, 2, none⟩ = some (.int .u8 code) ∧ Bx w wx #[.slice A0 N0 C0, .slice A1 N1 C1, .int .u8 code, .int .i64 ct] #[.int .u32 e1, .string m1, .int .u32 r2, .int .u8 r3, .int .u8 r4, .pointer p1] #[.string m2, .int .u32 e2, .pointer p2, .pointer q1] #[.slice A2 N2 C2, .slice A3 N3 C3, .int .i64 ct2, .string m3, .int .u32 t4, .int .u8 t5, .int .u8 t6, .string m4, .pointer q2])
                    case first =>
                      go_wp2_with fail
                      go_meet
                      have hn := two_new wc (.cells #[.int .u32 e1, .string m3, .int .u32 t4, .int .u8 t5, .int .u8 t6, .pointer p1] 28) (.cells #[.string m4, .int .u32 e2, .pointer p2, .pointer q2] 31)
                      exact ⟨_, rfl, rfl, hn.1, hn.2.1, keeps hn.2.2 hf, keeps hn.2.2 hg, hx.below hn.2.2⟩
                    case rest =>
                      clear hx hf hg z0 z1 z2 z3 i0 i1 i2 i3 i4 i5 j0 j1 j2 j3 k0 k1 k2 k3 k4 k5 k6 k7 k8 y0 y1 y2 y3 x0 x1 x2 x3
                      obtain ⟨M, rfl, rfl, hR, hS, hf, hg, hx⟩ := hcut
                      go_upto_region 19 with fail
                      go_cut [17] (fun t wx => ∃ b pp, t = .pointer (some ⟨b, 0, none⟩) ∧ wx.heap[b]? = some (.cells #[.pointer pp, .int .u8 (den ok e1 e2 n1 n2), .bool (vld ok e1 e2 n1 n2), .int .u8 code] 45 (0, 0)) ∧ Per 0 wx pp (den ok e1 e2 n1 n2) ∧ wx.heap[M]? = some (.cells #[.int .u32 e1, .string m3, .int .u32 t4, .int .u8 t5, .int .u8 t6, .pointer p1] 28 (0, 0)) ∧ wx.heap[M + 1]? = some (.cells #[.string m4, .int .u32 e2, .pointer p2, .pointer q2] 31 (0, 0)) ∧ wx.cell? ⟨f, 2, none⟩ = some (.int .u8 oc) ∧ Bx w wx #[.slice A0 N0 C0, .slice A1 N1 C1, .int .u8 code, .int .i64 ct] #[.int .u32 e1, .string m1, .int .u32 r2, .int .u8 r3, .int .u8 r4, .pointer p1] #[.string m2, .int .u32 e2, .pointer p2, .pointer q1] #[.slice A2 N2 C2, .slice A3 N3 C3, .int .i64 ct2, .string m3, .int .u32 t4, .int .u8 t5, .int .u8 t6, .string m4, .pointer q2])
                      case first =>
                        obtain ⟨z0, z1, z2, z3⟩ := hx.lt
                        obtain ⟨i0, i1, i2, i3, i4, i5⟩ := cells6 hx.2.1
                        obtain ⟨j0, j1, j2, j3⟩ := cells4 hx.2.2.1
                        have o1 := hp1.below hx.2.2.2.2
                        have o2 := hp2.below hx.2.2.2.2
                        have o3 := hq1.below hx.2.2.2.2
                        have HX : Hid _ := hx
                        have HRR : Hid _ := hR
                        have HSS : Hid _ := hS
                        have HF : Hid _ := hf
                        clear hx h0 h1 h2 h3 hq1 hq2 hp1 hp2 hR hS hf
                        go_region_held3 (fun w' => Below wc.heap.size wc w' ∧ ∀ b o, b < wc.heap.size → w'.cell? ⟨b, o, none⟩ = wc.cell? ⟨b, o, none⟩)
                          (first | exact S_start _ | exact S_step (by assumption) hbV | exact S_step (by assumption) hbL | exact S_step (by assumption) hbK | exact S_alloc (by assumption) _ | exact S_alloc (S_start _) _ | exact S_set4 (by assumption) (by omega) | exact S_alloc (S_step (S_step (S_step (S_start _) hbK) hbL) hbV) _)
                          (first | (go_at_call 12; refine (rn_any _ _ _ _ _ _ n1 _ ?_).mono ?_; (exact S_meid o1 (by assumption)); rintro e wk ⟨p1', rfl, hm1, hbK⟩; have zK := hbK.size; try simp at zK) | (go_at_call 13; refine (sub_any _ _ _ _ n2 _ ?_ ?_).mono ?_; (exact S_meid o2 (by assumption)); (exact S_serv o3 (by assumption)); rintro e wl ⟨p2', q', rfl, hm2, hbL⟩; have zL := hbL.size; try simp at zL) | (go_at_call 11; refine (zzValidate_any g code _ _ _ _ _ _ _ p1' p2' _ n1 n2 ok _ ?_ ?_ ?_).mono ?_; (exact S_keeps (by assumption) hg); (first | exact hm1.below hbL | exact (hm1.below hbL).below (below1 _ _) | exact (hm1.below (below1 _ _)).below hbL); (first | exact hm2 | exact hm2.below (below1 _ _)); rintro e wv ⟨pp, rfl, hper, hbV⟩; (first | have hGV := block_below hbV (heap_alloc_new wl _) | have hGV := block_below hbV (block_below hbL (heap_alloc_new wk _)) | have hGV := block_below hbV (block_below hbL (block_below hbK (heap_alloc_new wc _))) | have hGV := trivial); try (have hGf := unfrozen hGV; obtain ⟨hG0, hG1, hG2, hG3⟩ := cells4 hGV)))
                        all_goals go_wp2_with fail
                        all_goals go_meet
                        · exact ⟨_, pp, rfl, heap_alloc_new _ _, (hper.below (below1 _ _)).mono (Nat.zero_le _), close19 (by assumption) HRR.out HSS.out HF.out HX.out⟩
                        · exact ⟨_, pp, rfl, blk4 hGV _ _ _ _, per4 hper (by first | omega | simp), close19 (by assumption) HRR.out HSS.out HF.out HX.out⟩
                        · exact ⟨_, pp, rfl, blk4 hGV _ _ _ _, per4 hper (by first | omega | simp), close19 (by assumption) HRR.out HSS.out HF.out HX.out⟩
                        · exact ⟨_, pp, rfl, blk4 hGV _ _ _ _, per4 hper (by first | omega | simp), close19 (by assumption) HRR.out HSS.out HF.out HX.out⟩
                      case rest =>
                        clear hx hf hg hR hS
                        obtain ⟨ba, pa, rfl, hA, hPa, hR, hS, hg, hx⟩ := hcut
                        go_upto_region 20 with fail
                        go_cut [18] (fun t wx => ∃ b pp, t = .pointer (some ⟨b, 0, none⟩) ∧ wx.heap[b]? = some (.cells #[.pointer pp, .int .u8 (den ok e1 e2 n1 n2), .bool (vld ok e1 e2 n1 n2), .int .u8 oc] 45 (0, 0)) ∧ Per 0 wx pp (den ok e1 e2 n1 n2) ∧ wx.heap[ba]? = some (.cells #[.pointer pa, .int .u8 (den ok e1 e2 n1 n2), .bool (vld ok e1 e2 n1 n2), .int .u8 code] 45 (0, 0)) ∧ Per 0 wx pa (den ok e1 e2 n1 n2) ∧ Bx w wx #[.slice A0 N0 C0, .slice A1 N1 C1, .int .u8 code, .int .i64 ct] #[.int .u32 e1, .string m1, .int .u32 r2, .int .u8 r3, .int .u8 r4, .pointer p1] #[.string m2, .int .u32 e2, .pointer p2, .pointer q1] #[.slice A2 N2 C2, .slice A3 N3 C3, .int .i64 ct2, .string m3, .int .u32 t4, .int .u8 t5, .int .u8 t6, .string m4, .pointer q2])
                        case first =>
                          have z0 := lt_of_heap hR
                          have z1 := lt_of_heap hS
                          obtain ⟨i0, i1, i2, i3, i4, i5⟩ := cells6 hR
                          obtain ⟨j0, j1, j2, j3⟩ := cells4 hS
                          have o1 := hp1.below hx.2.2.2.2
                          have o2 := hp2.below hx.2.2.2.2
                          have o3 := hq2.below hx.2.2.2.2
                          have HX : Hid _ := hx
                          have HA : Hid _ := hA
                          have HP : Hid _ := hPa
                          clear hx h0 h1 h2 h3 hq1 hq2 hp1 hp2 hR hS hA hPa
                          go_region_held3 (fun w' => Below wc.heap.size wc w' ∧ ∀ b o, b < wc.heap.size → w'.cell? ⟨b, o, none⟩ = wc.cell? ⟨b, o, none⟩)
                            (first | exact S_start _ | exact S_step (by assumption) hbV | exact S_step (by assumption) hbL | exact S_step (by assumption) hbK | exact S_alloc (by assumption) _ | exact S_alloc (S_start _) _ | exact S_set4 (by assumption) (by omega) | exact S_alloc (S_step (S_step (S_step (S_start _) hbK) hbL) hbV) _)
                            (first | (go_at_call 12; refine (rn_any _ _ _ _ _ _ n1 _ ?_).mono ?_; (exact S_meid o1 (by assumption)); rintro e wk ⟨p1', rfl, hm1, hbK⟩; have zK := hbK.size; try simp at zK) | (go_at_call 13; refine (sub_any _ _ _ _ n2 _ ?_ ?_).mono ?_; (exact S_meid o2 (by assumption)); (exact S_serv o3 (by assumption)); rintro e wl ⟨p2', q', rfl, hm2, hbL⟩; have zL := hbL.size; try simp at zL) | (go_at_call 11; refine (zzValidate_any f oc _ _ _ _ _ _ _ p1' p2' _ n1 n2 ok _ ?_ ?_ ?_).mono ?_; (exact S_keeps (by assumption) hg); (first | exact hm1.below hbL | exact (hm1.below hbL).below (below1 _ _) | exact (hm1.below (below1 _ _)).below hbL); (first | exact hm2 | exact hm2.below (below1 _ _)); rintro e wv ⟨pp, rfl, hper, hbV⟩; (first | have hGV := block_below hbV (heap_alloc_new wl _) | have hGV := block_below hbV (block_below hbL (heap_alloc_new wk _)) | have hGV := block_below hbV (block_below hbL (block_below hbK (heap_alloc_new wc _))) | have hGV := trivial); try (have hGf := unfrozen hGV; obtain ⟨hG0, hG1, hG2, hG3⟩ := cells4 hGV)))
                          all_goals go_wp2_with fail
                          all_goals go_meet
                          · exact ⟨_, pp, rfl, heap_alloc_new _ _, (hper.below (below1 _ _)).mono (Nat.zero_le _), close20 (by assumption) HA.out HP.out HX.out⟩
                          · exact ⟨_, pp, rfl, blk4 hGV _ _ _ _, per4 hper (by first | omega | simp), close20 (by assumption) HA.out HP.out HX.out⟩
                          · exact ⟨_, pp, rfl, blk4 hGV _ _ _ _, per4 hper (by first | omega | simp), close20 (by assumption) HA.out HP.out HX.out⟩
                          · exact ⟨_, pp, rfl, blk4 hGV _ _ _ _, per4 hper (by first | omega | simp), close20 (by assumption) HA.out HP.out HX.out⟩
                        case rest =>
                          clear hx hg hR hS hA hPa h0 h1 h2 h3 hq1 hq2 hp1 hp2
                          obtain ⟨bb, pb, rfl, hB, hPb, hA, hPa, hx⟩ := hcut
                          obtain ⟨g0, g1, g2, g3⟩ := cells4 hx.1
                          obtain ⟨i0, i1, i2, i3⟩ := cells4 hA
                          obtain ⟨j0, j1, j2, j3⟩ := cells4 hB
                          have hbel := hx.2.2.2.2
                          have hv := vld_no ok e1 e2 n1 n2
                          clear hx hA hB
                          generalize (den ok e1 e2 n1 n2) = D at *
                          generalize (vld ok e1 e2 n1 n2) = V at *
                          by_cases hD : D = 0
                          · obtain ⟨b1, rfl⟩ := hPa.some hD
                            obtain ⟨b2, rfl⟩ := hPb.some hD
                            have HPa : Hid _ := hPa
                            have HPb : Hid _ := hPb
                            have hdd : (D == 0) = true := by simp [hD]
                            clear hv hD hPa hPb
                            cases V
                            all_goals
                              go_wp2_with (go_at_call 14; refine (same_any _ _ D _ HPa.out HPb.out).mono ?_; rintro e w' ⟨rfl, n, rfl⟩)
                              go_ret
                              exact ⟨rfl, below_drewN hbel _⟩
                          · obtain rfl := hPa.none hD
                            obtain rfl := hPb.none hD
                            obtain rfl := hv hD
                            have HPa : Hid _ := hPa
                            have HPb : Hid _ := hPb
                            have hdd : (D == 0) = false := by simp [hD]
                            clear hv hD hPa hPb
                            go_wp2_with (go_at_call 14; refine (same_any _ _ D _ HPa.out HPb.out).mono ?_; rintro e w' ⟨rfl, n, rfl⟩)
                            go_ret
                            exact ⟨rfl, below_drewN hbel _⟩
end Go.Proofs.Qxb6616234a
