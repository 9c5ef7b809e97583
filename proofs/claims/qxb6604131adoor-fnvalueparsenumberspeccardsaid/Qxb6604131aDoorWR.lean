import Derived.Test.Qxb6604131aDoorWS
namespace Go.Proofs.Qxb6604131aDoor
open Go.RowKit
set_option linter.unusedSimpArgs false
set_option linter.unusedVariables false

/-- What follows the first statement of a sequence. -/
def tl : Code → Code
  | .seq _ b => b
  | c => c
set_option maxRecDepth 100000 in
set_option maxHeartbeats 8000000 in
theorem scan_rest (s : ByteArray) (w : World) (hs : s.size ≤ 65536) (p : Nat) (neg : Bool) (HSS : Hid (SC (sgn s.data.toList).1 (sgn s.data.toList).2 = SC neg (s.data.toList.drop p)))
    (v4 v6 t8 t9 t10 t11 t12 t13 t14 t15 t16 t17 t18 t19 t20 t21 t22 t23 t24 t25 t26 t27 t28 t29 t30 t31 t32 t33 t34 t35 t36 t37 t38 t39 t40 t41 t42 t43 t44 t45 t46 t47 t48 t49 t50 t51 t52 t53 t54 t55 t56 t57 t58 t59 t60 t61 t62 t63 t64 t65 t66 t67 t68 t69 t70 t71 t72 t73 t74 t75 t76 t77 t78 t79 t80 t81 t82 t83 t84 t85 t86 t87 t88 t89 t90 t91 t92 t93 t94 t95 t96 t97 t98 t99 t100 t101 t102 t103 t104 t105 t106 t107 t108 t109 t110 t111 t112 t113 t114 t115 t116 t117 t118 t119 t120 t121 t122 t123 t124 t125 t126 t127 t128 t129 t130 t131 t132 t133 t134 t135 t136 t137 t138 t139 t140 t141 t142 t143 t144 t145 t146 t147 t148 t149 t150 t151 t152 t153 t154 t155 t156 t157 t158 t159 t160 t161 t162 t163 : Value) (wc : World) (hcut : K4 s w neg p v4 wc) :
    Code.wp Tryd.prog (tl (tl (tl (tl (tl (tl (tl (tl (Tryd.f13.body.getD .skip))))))))) (bodyPost Tryd.prog Tryd.f13 (ScA (SC (sgn s.data.toList).1 (sgn s.data.toList).2) w)) { tmps := #[.string s, undef, .pointer (some ⟨w.heap.size, 0, none⟩), .pointer (some ⟨w.heap.size + 1, 0, none⟩), v4, .int .i64 p, v6, undef, t8, t9, t10, t11, t12, t13, t14, t15, t16, t17, t18, t19, t20, t21, t22, t23, t24, t25, t26, t27, t28, t29, t30, t31, t32, t33, t34, t35, t36, t37, t38, t39, t40, t41, t42, t43, t44, t45, t46, t47, t48, t49, t50, t51, t52, t53, t54, t55, t56, t57, t58, t59, t60, t61, t62, t63, t64, t65, t66, t67, t68, t69, t70, t71, t72, t73, t74, t75, t76, t77, t78, t79, t80, t81, t82, t83, t84, t85, t86, t87, t88, t89, t90, t91, t92, t93, t94, t95, t96, t97, t98, t99, t100, t101, t102, t103, t104, t105, t106, t107, t108, t109, t110, t111, t112, t113, t114, t115, t116, t117, t118, t119, t120, t121, t122, t123, t124, t125, t126, t127, t128, t129, t130, t131, t132, t133, t134, t135, t136, t137, t138, t139, t140, t141, t142, t143, t144, t145, t146, t147, t148, t149, t150, t151, t152, t153, t154, t155, t156, t157, t158, t159, t160, t161, t162, t163], defers := [] } wc := by
  generalize hQ : bodyPost Tryd.prog Tryd.f13 (ScA (SC (sgn s.data.toList).1 (sgn s.data.toList).2) w) = Q
  dsimp only [tl, Tryd.f13, Option.getD]
  subst hQ
  obtain ⟨q, a2, b2, rfl, hq, hpq, hsc, n1, n2, hb⟩ := hcut
  have HSC : Hid (SC (sgn s.data.toList).1 (sgn s.data.toList).2 = SCt neg a2.data.toList b2.data.toList (q - p) (s.data.toList.drop q)) := HSS.out.trans hsc
  clear hsc HSS
  have HM1 : Hid (Scn wc w.heap.size false false ⟨#[]⟩ ⟨#[]⟩ 0 0 ⟨#[]⟩) := n1
  have HM2 : Hid (Scn wc (w.heap.size + 1) false neg a2 b2 0 0 ⟨#[]⟩) := n2
  have HB : Hid (Below w.heap.size w wc) := hb
  clear n1 n2 hb
  obtain ⟨W3, hW3⟩ : ∃ W3, wc = W3 := ⟨_, rfl⟩
  rw [hW3] at HM1 HM2 HB ⊢
  clear hW3
  have c2 := HM2.out.c2; have c3 := HM2.out.c3; have f2 := HM2.out.fz
  go_upto_region 16 with fail
  go_cut [86] (fun v wx => Tst (a2.data.toList = [] ∧ b2.data.toList = []) v ∧ wx = W3)
  case first => as_aux_lemma =>
    by_cases ha : a2.data.toList = []
    · have ka : a2.toList.isEmpty = true := toList_nil.2 ha
      by_cases hb : b2.data.toList = []
      · have kb : b2.toList.isEmpty = true := toList_nil.2 hb
        have HX : Hid (a2.data.toList = [] ∧ b2.data.toList = []) := ⟨ha, hb⟩
        clear ha hb
        go_wp2_with fail
        go_meet
        case rel => exact ⟨⟨true, rfl, ⟨fun _ => HX.out, fun _ => rfl⟩⟩, rfl⟩
      · have kb : b2.toList.isEmpty = false := toList_not hb
        have HX : Hid (¬ (a2.data.toList = [] ∧ b2.data.toList = [])) := fun h => hb h.2
        clear ha hb
        go_wp2_with fail
        go_meet
        case rel => exact ⟨⟨false, rfl, ⟨fun h => (by cases h), fun h => absurd h HX.out⟩⟩, rfl⟩
    · have ka : a2.toList.isEmpty = false := toList_not ha
      have HX : Hid (¬ (a2.data.toList = [] ∧ b2.data.toList = [])) := fun h => ha h.1
      clear ha
      go_wp2_with fail
      go_meet
      case rel => exact ⟨⟨false, rfl, ⟨fun h => (by cases h), fun h => absurd h HX.out⟩⟩, rfl⟩
  case rest =>
    obtain ⟨⟨t3, rfl, ht3⟩, hw⟩ := hcut
    rw [hw]
    clear hw
    have HT : Hid (t3 = true ↔ a2.data.toList = [] ∧ b2.data.toList = []) := ht3
    clear ht3
    cases t3 with
    | true =>
      have HR : Hid (SCt neg a2.data.toList b2.data.toList (q - p) (s.data.toList.drop q) = noSc) := sct_none (HT.out.1 rfl).1 (HT.out.1 rfl).2
      go_upto_region 17 with fail
      refine wp_region_lit ?_
      go_step
      go_step
      go_step
      refine wpList_store_row rfl 30 (.tmp 2) (.tmp 87) rfl w.heap.size #[.bool false, .bool false, .string ⟨#[]⟩, .string ⟨#[]⟩, .int .i64 0, .int .i64 0, .string ⟨#[]⟩] rfl rfl 30 #[.bool false, .bool false, .string ⟨#[]⟩, .string ⟨#[]⟩, .int .i64 0, .int .i64 0, .string ⟨#[]⟩] HM1.out sz30 rfl (one7 _ _ _ _ _ _ _) ?_
      obtain ⟨W9, hW9⟩ : ∃ W9, World.setRow W3 w.heap.size #[.bool false, .bool false, .string ⟨#[]⟩, .string ⟨#[]⟩, .int .i64 0, .int .i64 0, .string ⟨#[]⟩] = W9 := ⟨_, rfl⟩
      have hr9 := setRow_heap W3 w.heap.size _ #[.bool false, .bool false, .string ⟨#[]⟩, .string ⟨#[]⟩, .int .i64 0, .int .i64 0, .string ⟨#[]⟩] 30 _ HM1.out
      have hb9 := below_setRow HB.out (Nat.le_refl _) #[.bool false, .bool false, .string ⟨#[]⟩, .string ⟨#[]⟩, .int .i64 0, .int .i64 0, .string ⟨#[]⟩]
      rw [hW9] at hr9 hb9 ⊢
      have HR9 : Hid (W9.heap[w.heap.size]? = some (.cells #[.bool false, .bool false, .string ⟨#[]⟩, .string ⟨#[]⟩, .int .i64 0, .int .i64 0, .string ⟨#[]⟩] 30 (0, 0))) := hr9
      have HB9 : Hid (Below w.heap.size w W9) := hb9
      clear hW9 hr9 hb9
      repeat go_step
      refine bodyPost_ret (v := .agg #[.bool false, .bool false, .string ⟨#[]⟩, .string ⟨#[]⟩, .int .i64 0, .int .i64 0, .string ⟨#[]⟩]) (by exact results_cell_row Tryd.results13 _ _ w.heap.size 30 #[.bool false, .bool false, .string ⟨#[]⟩, .string ⟨#[]⟩, .int .i64 0, .int .i64 0, .string ⟨#[]⟩] (0, 0) _ rfl HR9.out Tryd.underlying30 rfl sz30) rfl ⟨false, false, ⟨#[]⟩, ⟨#[]⟩, 0, 0, ⟨#[]⟩, rfl, HSC.out.trans HR.out, HB9.out⟩
    | false =>
      have HNE : Hid (¬ (a2.data.toList = [] ∧ b2.data.toList = [])) := fun h => by have := HT.out.2 h; cases this
      clear HT c2 c3
      have hqI : (q : Int) ≤ (s.size : Int) := by omega
      have hpqI : (p : Int) ≤ (q : Int) := by omega
      have hmm : (q : Int) - (p : Int) = ((q - p : Nat) : Int) := by omega
      obtain ⟨M, hM⟩ : ∃ M, q - p = M := ⟨_, rfl⟩
      rw [hM] at hmm HSC
      have hMl : M ≤ 65536 := by omega
      clear hM
      have c0 := HM2.out.c0
      have c4 := HM2.out.c4
      have n1 := HM1.out.other (k := w.heap.size + 1) (i := 4) (by omega) (.int .i64 M)
      have n2 := HM2.out.set4 M
      have hb := HB.out.setCell (p := ⟨w.heap.size + 1, 4, none⟩) (Nat.le_succ _) (.int .i64 M)
      by_cases hqs : q = s.size
      · have kq : ((q : Int) == (s.size : Int)) = true := beq_iff_eq.2 (by omega)
        have HR : Hid (SCt neg a2.data.toList b2.data.toList M (s.data.toList.drop q) = ⟨true, neg, a2.data.toList, b2.data.toList, M, 0, []⟩) := by
          show _ = _
          rw [drop_end s q (by omega)]
          exact sct_end HNE.out
        clear hqs
        have n1' := n1.other (k := w.heap.size + 1) (i := 0) (by omega) (.bool true)
        have n2' := n2.set0 true
        have hb' := hb.setCell (p := ⟨w.heap.size + 1, 0, none⟩) (Nat.le_succ _) (.bool true)
        clear n1 n2 hb
        go_upto_region 21 with fail
        obtain ⟨W4, hW4⟩ : ∃ W4, (W3.setCell ⟨w.heap.size + 1, 4, none⟩ (.int .i64 M)).setCell ⟨w.heap.size + 1, 0, none⟩ (.bool true) = W4 := ⟨_, rfl⟩
        rw [hW4] at n1' n2' hb' ⊢
        have N1 : Hid (Scn W4 w.heap.size false false ⟨#[]⟩ ⟨#[]⟩ 0 0 ⟨#[]⟩) := n1'
        have N2 : Hid (Scn W4 (w.heap.size + 1) true neg a2 b2 M 0 ⟨#[]⟩) := n2'
        have HB4 : Hid (Below w.heap.size w W4) := hb'
        clear hW4 n1' n2' hb' c0 c4 f2
        refine wp_region_lit ?_
        refine wpList_load_row rfl 30 (.tmp 3) rfl (w.heap.size + 1) rfl 30 #[.bool true, .bool neg, .string a2, .string b2, .int .i64 M, .int .i64 0, .string ⟨#[]⟩] (0, 0) _ N2.out Tryd.underlying30 rfl sz30 ?_
        refine wpList_store_row rfl 30 (.tmp 2) (.tmp 97) rfl w.heap.size #[.bool true, .bool neg, .string a2, .string b2, .int .i64 M, .int .i64 0, .string ⟨#[]⟩] rfl rfl 30 #[.bool false, .bool false, .string ⟨#[]⟩, .string ⟨#[]⟩, .int .i64 0, .int .i64 0, .string ⟨#[]⟩] N1.out sz30 rfl (one7 _ _ _ _ _ _ _) ?_
        obtain ⟨W9, hW9⟩ : ∃ W9, World.setRow W4 w.heap.size #[.bool true, .bool neg, .string a2, .string b2, .int .i64 M, .int .i64 0, .string ⟨#[]⟩] = W9 := ⟨_, rfl⟩
        have hr9 := setRow_heap W4 w.heap.size _ #[.bool true, .bool neg, .string a2, .string b2, .int .i64 M, .int .i64 0, .string ⟨#[]⟩] 30 _ N1.out
        have hb9 := below_setRow HB4.out (Nat.le_refl _) #[.bool true, .bool neg, .string a2, .string b2, .int .i64 M, .int .i64 0, .string ⟨#[]⟩]
        rw [hW9] at hr9 hb9 ⊢
        have HR9 : Hid (W9.heap[w.heap.size]? = some (.cells #[.bool true, .bool neg, .string a2, .string b2, .int .i64 M, .int .i64 0, .string ⟨#[]⟩] 30 (0, 0))) := hr9
        have HB9 : Hid (Below w.heap.size w W9) := hb9
        clear hW9 hr9 hb9
        repeat go_step
        refine bodyPost_ret (v := .agg #[.bool true, .bool neg, .string a2, .string b2, .int .i64 M, .int .i64 0, .string ⟨#[]⟩]) (by exact results_cell_row Tryd.results13 _ _ w.heap.size 30 #[.bool true, .bool neg, .string a2, .string b2, .int .i64 M, .int .i64 0, .string ⟨#[]⟩] (0, 0) _ rfl HR9.out Tryd.underlying30 rfl sz30) rfl ⟨true, neg, a2, b2, M, 0, ⟨#[]⟩, rfl, HSC.out.trans HR.out, HB9.out⟩
      · have kq : ((q : Int) == (s.size : Int)) = false := beq_eq_false_iff_ne.2 (by omega)
        have hqs2 : q < s.size := by omega
        have hqsI : (q : Int) < (s.size : Int) := by omega
        clear hqs
        go_upto_region 22 with fail
        obtain ⟨W4, hW4⟩ : ∃ W4, W3.setCell ⟨w.heap.size + 1, 4, none⟩ (.int .i64 M) = W4 := ⟨_, rfl⟩
        rw [hW4] at n1 n2 hb ⊢
        clear HM1 HM2 HB c0 c4 f2 hW4
        have HM1 : Hid (Scn W4 w.heap.size false false ⟨#[]⟩ ⟨#[]⟩ 0 0 ⟨#[]⟩) := n1
        have HM2 : Hid (Scn W4 (w.heap.size + 1) false neg a2 b2 M 0 ⟨#[]⟩) := n2
        have HB : Hid (Below w.heap.size w W4) := hb
        clear n1 n2 hb
        have hdq : s.data.toList.drop q = s[q] :: s.data.toList.drop (q + 1) := drop_cons s q hqs2
        have HDQ : Hid (s.data.toList.drop q = s[q] :: s.data.toList.drop (q + 1)) := hdq
        clear hdq
        go_cut [107] (fun v wx => Tst (isE s[q] = false) v ∧ wx = W4)
        case first => as_aux_lemma =>
          have hie : isE s[q] = true ↔ s[q].toNat = 101 ∨ s[q].toNat = 69 := isE_num _
          obtain ⟨y, hy⟩ : ∃ y, s[q].toNat = y := ⟨_, rfl⟩
          rw [hy] at hie
          obtain ⟨ie, hie2⟩ : ∃ ie, isE s[q] = ie := ⟨_, rfl⟩
          rw [hie2] at hie
          have HIE : Hid (ie = true ↔ y = 101 ∨ y = 69) := hie
          have HI2 : Hid (isE s[q] = ie) := hie2
          clear hie hie2
          by_cases e1 : y = 101
          · have k1 : ((y : Int) != 101) = false := by rw [e1]; rfl
            go_wp2_with fail
            go_meet
            case rel => exact ⟨⟨false, rfl, ⟨fun h => (by cases h), fun h => (by rw [HI2.out, HIE.out.2 (.inl e1)] at h; cases h)⟩⟩, rfl⟩
          · have k1 : ((y : Int) != 101) = true := by rw [bne_iff_ne]; omega
            by_cases e2 : y = 69
            · have k2 : ((y : Int) != 69) = false := by rw [e2]; rfl
              go_wp2_with fail
              go_meet
              case rel => exact ⟨⟨false, rfl, ⟨fun h => (by cases h), fun h => (by rw [HI2.out, HIE.out.2 (.inr e2)] at h; cases h)⟩⟩, rfl⟩
            · have k2 : ((y : Int) != 69) = true := by rw [bne_iff_ne]; omega
              have HF : Hid (isE s[q] = false) := by
                show isE s[q] = false
                rw [HI2.out]
                cases ie with
                | false => rfl
                | true => exact absurd (HIE.out.1 rfl) (by omega)
              go_wp2_with fail
              go_meet
              case rel => exact ⟨⟨true, rfl, ⟨fun _ => HF.out, fun _ => rfl⟩⟩, rfl⟩
        case rest =>
          obtain ⟨⟨t4, rfl, ht4⟩, hw⟩ := hcut
          rw [hw]
          clear hw
          have HT : Hid (t4 = true ↔ isE s[q] = false) := ht4
          clear ht4
          cases t4 with
          | true =>
            have HR : Hid (SCt neg a2.data.toList b2.data.toList M (s.data.toList.drop q) = noSc) := by
              show _ = _
              rw [HDQ.out]; exact sct_not HNE.out (HT.out.1 rfl)
            go_upto_region 23 with fail
            refine wp_region_lit ?_
            go_step
            go_step
            go_step
            refine wpList_store_row rfl 30 (.tmp 2) (.tmp 108) rfl w.heap.size #[.bool false, .bool false, .string ⟨#[]⟩, .string ⟨#[]⟩, .int .i64 0, .int .i64 0, .string ⟨#[]⟩] rfl rfl 30 #[.bool false, .bool false, .string ⟨#[]⟩, .string ⟨#[]⟩, .int .i64 0, .int .i64 0, .string ⟨#[]⟩] HM1.out sz30 rfl (one7 _ _ _ _ _ _ _) ?_
            obtain ⟨W9, hW9⟩ : ∃ W9, World.setRow W4 w.heap.size #[.bool false, .bool false, .string ⟨#[]⟩, .string ⟨#[]⟩, .int .i64 0, .int .i64 0, .string ⟨#[]⟩] = W9 := ⟨_, rfl⟩
            have hr9 := setRow_heap W4 w.heap.size _ #[.bool false, .bool false, .string ⟨#[]⟩, .string ⟨#[]⟩, .int .i64 0, .int .i64 0, .string ⟨#[]⟩] 30 _ HM1.out
            have hb9 := below_setRow HB.out (Nat.le_refl _) #[.bool false, .bool false, .string ⟨#[]⟩, .string ⟨#[]⟩, .int .i64 0, .int .i64 0, .string ⟨#[]⟩]
            rw [hW9] at hr9 hb9 ⊢
            have HR9 : Hid (W9.heap[w.heap.size]? = some (.cells #[.bool false, .bool false, .string ⟨#[]⟩, .string ⟨#[]⟩, .int .i64 0, .int .i64 0, .string ⟨#[]⟩] 30 (0, 0))) := hr9
            have HB9 : Hid (Below w.heap.size w W9) := hb9
            clear hW9 hr9 hb9
            repeat go_step
            refine bodyPost_ret (v := .agg #[.bool false, .bool false, .string ⟨#[]⟩, .string ⟨#[]⟩, .int .i64 0, .int .i64 0, .string ⟨#[]⟩]) (by exact results_cell_row Tryd.results13 _ _ w.heap.size 30 #[.bool false, .bool false, .string ⟨#[]⟩, .string ⟨#[]⟩, .int .i64 0, .int .i64 0, .string ⟨#[]⟩] (0, 0) _ rfl HR9.out Tryd.underlying30 rfl sz30) rfl ⟨false, false, ⟨#[]⟩, ⟨#[]⟩, 0, 0, ⟨#[]⟩, rfl, HSC.out.trans HR.out, HB9.out⟩
          | false =>
            have HE : Hid (isE s[q] = true) := by
              show isE s[q] = true
              cases h : isE s[q] with
              | true => rfl
              | false => have := HT.out.2 h; cases this
            have HR : Hid (SC (sgn s.data.toList).1 (sgn s.data.toList).2 = if (sgn (s.data.toList.drop (q + 1))).2 = [] ∨ (sgn (s.data.toList.drop (q + 1))).2.all isD = false then noSc else ⟨true, neg, a2.data.toList, b2.data.toList, M, if (sgn (s.data.toList.drop (q + 1))).1 = true then -1 else 1, (sgn (s.data.toList.drop (q + 1))).2⟩) := by
              show _ = _
              rw [HSC.out, HDQ.out]; exact sct_exp HNE.out HE.out
            clear HT HE HDQ HSC HNE
            have c5 := HM2.out.c5
            have f2 := HM2.out.fz
            go_upto_region 26 with fail
            have n1 := HM1.out.other (k := w.heap.size + 1) (i := 5) (by omega) (.int .i64 1)
            have n2 := HM2.out.set5 1
            have hb := HB.out.setCell (p := ⟨w.heap.size + 1, 5, none⟩) (Nat.le_succ _) (.int .i64 1)
            obtain ⟨W5, hW5⟩ : ∃ W5, W4.setCell ⟨w.heap.size + 1, 5, none⟩ (.int .i64 1) = W5 := ⟨_, rfl⟩
            rw [hW5] at n1 n2 hb ⊢
            clear HM1 HM2 HB c5 f2 hW5
            have HM1 : Hid (Scn W5 w.heap.size false false ⟨#[]⟩ ⟨#[]⟩ 0 0 ⟨#[]⟩) := n1
            have HM2 : Hid (Scn W5 (w.heap.size + 1) false neg a2 b2 M 1 ⟨#[]⟩) := n2
            have HB : Hid (Below w.heap.size w W5) := hb
            clear n1 n2 hb
            obtain ⟨k, hk⟩ : ∃ k : Nat, q + 1 = k := ⟨_, rfl⟩
            have hkI : (q : Int) + 1 = (k : Int) := by omega
            have hks : k ≤ s.size := by omega
            rw [hk] at HR
            rw [hkI]
            clear hk hkI hqs2 hqsI kq hqI hpqI hmm hpq hq
            go_cut [127] (fun v wx => Tst (At s k) v ∧ wx = W5)
            case first => as_aux_lemma =>
              by_cases h0 : k < s.size
              · have h0I : (k : Int) < (s.size : Int) := by omega
                have hat : At s k ↔ s[k].toNat = 43 ∨ s[k].toNat = 45 := ⟨fun ⟨_, h⟩ => h, fun h => ⟨h0, h⟩⟩
                obtain ⟨y, hy⟩ : ∃ y, s[k].toNat = y := ⟨_, rfl⟩
                rw [hy] at hat
                have HA : Hid (At s k ↔ y = 43 ∨ y = 45) := hat
                clear hat
                by_cases e1 : y = 43
                · have k1 : ((y : Int) == 43) = true := beq_iff_eq.2 (by omega)
                  go_wp2_with fail
                  go_meet
                  case rel => exact ⟨⟨true, rfl, ⟨fun _ => HA.out.2 (.inl e1), fun _ => rfl⟩⟩, rfl⟩
                · have k1 : ((y : Int) == 43) = false := beq_eq_false_iff_ne.2 (by omega)
                  by_cases e2 : y = 45
                  · have k2 : ((y : Int) == 45) = true := beq_iff_eq.2 (by omega)
                    go_wp2_with fail
                    go_meet
                    case rel => exact ⟨⟨true, rfl, ⟨fun _ => HA.out.2 (.inr e2), fun _ => rfl⟩⟩, rfl⟩
                  · have k2 : ((y : Int) == 45) = false := beq_eq_false_iff_ne.2 (by omega)
                    go_wp2_with fail
                    go_meet
                    case rel => exact ⟨⟨false, rfl, ⟨fun h => (by cases h), fun h => absurd (HA.out.1 h) (by omega)⟩⟩, rfl⟩
              · have h0I : ¬ (k : Int) < (s.size : Int) := by omega
                go_wp2_with fail
                go_meet
                case rel => exact ⟨⟨false, rfl, ⟨fun h => (by cases h), fun h => absurd h.1 h0⟩⟩, rfl⟩
            case rest =>
              obtain ⟨⟨t5, rfl, ht5⟩, hw⟩ := hcut
              rw [hw]
              clear hw
              have HT : Hid (t5 = true ↔ At s k) := ht5
              clear ht5
              go_upto_if 127 with fail
              go_cut [4] (fun v wx => K6 s w neg a2 b2 M k v wx)
              case first => as_aux_lemma =>
                have c5 := HM2.out.c5
                have f2 := HM2.out.fz
                cases t5 with
                | true =>
                  obtain ⟨h0, hy0⟩ := HT.out.1 rfl
                  have h0I : (k : Int) < (s.size : Int) := by omega
                  have hsg := sgn_at h0 hy0
                  obtain ⟨y, hy⟩ : ∃ y, s[k].toNat = y := ⟨_, rfl⟩
                  rw [hy] at hsg
                  clear hy0
                  by_cases e2 : y = 45
                  · have k2 : ((y : Int) == 45) = true := beq_iff_eq.2 (by omega)
                    rw [k2] at hsg
                    have HS : Hid (sgn (s.data.toList.drop k) = (true, s.data.toList.drop (k + 1))) := hsg
                    clear hsg
                    go_wp2_with fail
                    go_meet
                    case rel => exact ⟨k + 1, true, by go_num, h0, HS.out, HM1.out.other (by omega) _, HM2.out.set5 _, HB.out.setCell (Nat.le_succ _) _⟩
                  · have k2 : ((y : Int) == 45) = false := beq_eq_false_iff_ne.2 (by omega)
                    rw [k2] at hsg
                    have HS : Hid (sgn (s.data.toList.drop k) = (false, s.data.toList.drop (k + 1))) := hsg
                    clear hsg
                    go_wp2_with fail
                    go_meet
                    case rel => exact ⟨k + 1, false, by go_num, h0, HS.out, HM1.out, HM2.out, HB.out⟩
                | false =>
                  have HS : Hid (sgn (s.data.toList.drop k) = (false, s.data.toList.drop k)) := sgn_not (fun h => by have := HT.out.2 h; cases this)
                  go_wp2_with fail
                  go_meet
                  case rel => exact ⟨k, false, rfl, hks, HS.out, HM1.out, HM2.out, HB.out⟩
              case rest =>
                clear HM1 HM2 HB HT
                obtain ⟨q2, sg, rfl, hq2, hsg, n1, n2, hb⟩ := hcut
                obtain ⟨sv, hsv⟩ : ∃ sv : Int, (if sg = true then -1 else 1) = sv := ⟨_, rfl⟩
                have hR2 := HR.out
                rw [hsg] at hR2
                simp only [hsv] at hR2
                rw [hsv] at n2
                have HR2 : Hid (SC (sgn s.data.toList).1 (sgn s.data.toList).2 = if s.data.toList.drop q2 = [] ∨ (s.data.toList.drop q2).all isD = false then noSc else ⟨true, neg, a2.data.toList, b2.data.toList, M, sv, s.data.toList.drop q2⟩) := hR2
                clear HR hsg hsv hR2
                obtain ⟨W6, hW6⟩ : ∃ W6, wc = W6 := ⟨_, rfl⟩
                rw [hW6] at n1 n2 hb ⊢
                clear hW6
                have HM1 : Hid (Scn W6 w.heap.size false false ⟨#[]⟩ ⟨#[]⟩ 0 0 ⟨#[]⟩) := n1
                have HM2 : Hid (Scn W6 (w.heap.size + 1) false neg a2 b2 M sv ⟨#[]⟩) := n2
                have HB : Hid (Below w.heap.size w W6) := hb
                clear n1 n2 hb
                go_upto_block 4 with fail
                go_cut [4] (fun v wx => K2 s q2 v ∧ wx = W6)
                case first => as_aux_lemma =>
                  go_wp2_with fail
                  go_loop [4] (fun v => ∃ i9 : Nat, v = .int .i64 i9 ∧ i9 ≤ s.size ∧ Hid (Spn s.data.toList q2 i9)) (fun v => s.size - (intOf v).toNat)
                  case atStart => exact ⟨q2, rfl, hq2, Spn.start _ _⟩
                  case round =>
                    obtain ⟨j2, rfl, hj2, hsp⟩ := hrel
                    by_cases h1 : j2 < s.size
                    · have h1I : (j2 : Int) < (s.size : Int) := by omega
                      have hgl := get_list s j2 h1
                      obtain ⟨y, hy⟩ : ∃ y, s[j2].toNat = y := ⟨_, rfl⟩
                      have hyl : y < 256 := by rw [← hy]; exact s[j2].toNat_lt
                      by_cases h2 : 48 ≤ y ∧ y ≤ 57
                      · have HN : Hid (Spn s.data.toList q2 (j2 + 1)) := hsp.out.step hgl ((isD_num _).2 (by rw [hy]; exact h2))
                        have cd := isdig_any y hyl true ⟨fun _ => h2, fun _ => rfl⟩ W6
                        clear hgl h2 hsp
                        go_wp2_with (go_at_call 22; refine cd.mono ?_; rintro e w' ⟨rfl, hw⟩; rw [hw]; clear hw w')
                        exact ⟨⟨j2 + 1, by go_num, h1, HN⟩, by simp [intOf]; omega⟩
                      · have HN : Hid (Spd s.data.toList q2 j2) := hsp.out.stop hgl (isD_not (by rw [hy]; exact h2))
                        have cd := isdig_any y hyl false ⟨fun h => (by cases h), fun h => absurd h h2⟩ W6
                        clear hgl h2 hsp
                        go_wp2_with (go_at_call 22; refine cd.mono ?_; rintro e w' ⟨rfl, hw⟩; rw [hw]; clear hw w')
                        go_meet
                        case rel => exact ⟨⟨j2, rfl, hj2, HN.out⟩, rfl⟩
                    · have h1I : ¬ (j2 : Int) < (s.size : Int) := by omega
                      have HN : Hid (Spd s.data.toList q2 j2) := hsp.out.over (by rw [← Lib.size_eq]; omega)
                      clear hsp
                      go_wp2_with fail
                      go_meet
                      case rel => exact ⟨⟨j2, rfl, hj2, HN.out⟩, rfl⟩
                case rest =>
                  obtain ⟨⟨j5, rfl, hj5, hsp⟩, hw⟩ := hcut
                  rw [hw]
                  clear hw
                  have HSP : Hid (Spd s.data.toList q2 j5) := hsp
                  clear hsp
                  by_cases e1 : j5 = q2
                  · have k1 : ((j5 : Int) == (q2 : Int)) = true := beq_iff_eq.2 (by omega)
                    have HZ : Hid (SC (sgn s.data.toList).1 (sgn s.data.toList).2 = noSc) := by
                      show _ = _
                      rw [HR2.out, if_pos (exp_bad HSP.out (by rw [← Lib.size_eq]; exact hj5) (.inl e1))]
                    clear e1
                    go_upto_region 34 with fail
                    refine wp_region_lit ?_
                    go_step
                    go_step
                    go_step
                    refine wpList_store_row rfl 30 (.tmp 2) (.tmp 157) rfl w.heap.size #[.bool false, .bool false, .string ⟨#[]⟩, .string ⟨#[]⟩, .int .i64 0, .int .i64 0, .string ⟨#[]⟩] rfl rfl 30 #[.bool false, .bool false, .string ⟨#[]⟩, .string ⟨#[]⟩, .int .i64 0, .int .i64 0, .string ⟨#[]⟩] HM1.out sz30 rfl (one7 _ _ _ _ _ _ _) ?_
                    obtain ⟨W9, hW9⟩ : ∃ W9, World.setRow W6 w.heap.size #[.bool false, .bool false, .string ⟨#[]⟩, .string ⟨#[]⟩, .int .i64 0, .int .i64 0, .string ⟨#[]⟩] = W9 := ⟨_, rfl⟩
                    have hr9 := setRow_heap W6 w.heap.size _ #[.bool false, .bool false, .string ⟨#[]⟩, .string ⟨#[]⟩, .int .i64 0, .int .i64 0, .string ⟨#[]⟩] 30 _ HM1.out
                    have hb9 := below_setRow HB.out (Nat.le_refl _) #[.bool false, .bool false, .string ⟨#[]⟩, .string ⟨#[]⟩, .int .i64 0, .int .i64 0, .string ⟨#[]⟩]
                    rw [hW9] at hr9 hb9 ⊢
                    have HR9 : Hid (W9.heap[w.heap.size]? = some (.cells #[.bool false, .bool false, .string ⟨#[]⟩, .string ⟨#[]⟩, .int .i64 0, .int .i64 0, .string ⟨#[]⟩] 30 (0, 0))) := hr9
                    have HB9 : Hid (Below w.heap.size w W9) := hb9
                    clear hW9 hr9 hb9
                    repeat go_step
                    refine bodyPost_ret (v := .agg #[.bool false, .bool false, .string ⟨#[]⟩, .string ⟨#[]⟩, .int .i64 0, .int .i64 0, .string ⟨#[]⟩]) (by exact results_cell_row Tryd.results13 _ _ w.heap.size 30 #[.bool false, .bool false, .string ⟨#[]⟩, .string ⟨#[]⟩, .int .i64 0, .int .i64 0, .string ⟨#[]⟩] (0, 0) _ rfl HR9.out Tryd.underlying30 rfl sz30) rfl ⟨false, false, ⟨#[]⟩, ⟨#[]⟩, 0, 0, ⟨#[]⟩, rfl, HZ.out, HB9.out⟩
                  · have k1 : ((j5 : Int) == (q2 : Int)) = false := beq_eq_false_iff_ne.2 (by omega)
                    by_cases e2 : j5 = s.size
                    · have k2 : ((j5 : Int) != (s.size : Int)) = false := by rw [e2]; simp
                      have HG : Hid (SC (sgn s.data.toList).1 (sgn s.data.toList).2 = ⟨true, neg, a2.data.toList, b2.data.toList, M, sv, (s.extract q2 s.size).data.toList⟩) := by
                        show _ = _
                        rw [HR2.out, if_neg (exp_good HSP.out e1 (by rw [← Lib.size_eq]; exact e2)), ext_from]
                      have hq2I : (q2 : Int) ≤ (s.size : Int) := by omega
                      clear e1 e2
                      have c0 := HM2.out.c0
                      have c6 := HM2.out.c6
                      have f2 := HM2.out.fz
                      have n1 := (HM1.out.other (k := w.heap.size + 1) (i := 6) (by omega) (.string (s.extract q2 s.size))).other (k := w.heap.size + 1) (i := 0) (by omega) (.bool true)
                      have n2 := (HM2.out.set6 (s.extract q2 s.size)).set0 true
                      have hb := (HB.out.setCell (p := ⟨w.heap.size + 1, 6, none⟩) (Nat.le_succ _) (.string (s.extract q2 s.size))).setCell (p := ⟨w.heap.size + 1, 0, none⟩) (Nat.le_succ _) (.bool true)
                      go_upto_region 37 with fail
                      obtain ⟨W7, hW7⟩ : ∃ W7, (W6.setCell ⟨w.heap.size + 1, 6, none⟩ (.string (s.extract q2 s.size))).setCell ⟨w.heap.size + 1, 0, none⟩ (.bool true) = W7 := ⟨_, rfl⟩
                      rw [hW7] at n1 n2 hb ⊢
                      have N1 : Hid (Scn W7 w.heap.size false false ⟨#[]⟩ ⟨#[]⟩ 0 0 ⟨#[]⟩) := n1
                      have N2 : Hid (Scn W7 (w.heap.size + 1) true neg a2 b2 M sv (s.extract q2 s.size)) := n2
                      have HB4 : Hid (Below w.heap.size w W7) := hb
                      clear hW7 n1 n2 hb c0 c6 f2
                      refine wp_region_lit ?_
                      refine wpList_load_row rfl 30 (.tmp 3) rfl (w.heap.size + 1) rfl 30 #[.bool true, .bool neg, .string a2, .string b2, .int .i64 M, .int .i64 sv, .string (s.extract q2 s.size)] (0, 0) _ N2.out Tryd.underlying30 rfl sz30 ?_
                      refine wpList_store_row rfl 30 (.tmp 2) (.tmp 163) rfl w.heap.size #[.bool true, .bool neg, .string a2, .string b2, .int .i64 M, .int .i64 sv, .string (s.extract q2 s.size)] rfl rfl 30 #[.bool false, .bool false, .string ⟨#[]⟩, .string ⟨#[]⟩, .int .i64 0, .int .i64 0, .string ⟨#[]⟩] N1.out sz30 rfl (one7 _ _ _ _ _ _ _) ?_
                      obtain ⟨W9, hW9⟩ : ∃ W9, World.setRow W7 w.heap.size #[.bool true, .bool neg, .string a2, .string b2, .int .i64 M, .int .i64 sv, .string (s.extract q2 s.size)] = W9 := ⟨_, rfl⟩
                      have hr9 := setRow_heap W7 w.heap.size _ #[.bool true, .bool neg, .string a2, .string b2, .int .i64 M, .int .i64 sv, .string (s.extract q2 s.size)] 30 _ N1.out
                      have hb9 := below_setRow HB4.out (Nat.le_refl _) #[.bool true, .bool neg, .string a2, .string b2, .int .i64 M, .int .i64 sv, .string (s.extract q2 s.size)]
                      rw [hW9] at hr9 hb9 ⊢
                      have HR9 : Hid (W9.heap[w.heap.size]? = some (.cells #[.bool true, .bool neg, .string a2, .string b2, .int .i64 M, .int .i64 sv, .string (s.extract q2 s.size)] 30 (0, 0))) := hr9
                      have HB9 : Hid (Below w.heap.size w W9) := hb9
                      clear hW9 hr9 hb9
                      repeat go_step
                      refine bodyPost_ret (v := .agg #[.bool true, .bool neg, .string a2, .string b2, .int .i64 M, .int .i64 sv, .string (s.extract q2 s.size)]) (by exact results_cell_row Tryd.results13 _ _ w.heap.size 30 #[.bool true, .bool neg, .string a2, .string b2, .int .i64 M, .int .i64 sv, .string (s.extract q2 s.size)] (0, 0) _ rfl HR9.out Tryd.underlying30 rfl sz30) rfl ⟨true, neg, a2, b2, M, sv, _, rfl, HG.out, HB9.out⟩
                    · have k2 : ((j5 : Int) != (s.size : Int)) = true := by rw [bne_iff_ne]; omega
                      have HZ : Hid (SC (sgn s.data.toList).1 (sgn s.data.toList).2 = noSc) := by
                        show _ = _
                        rw [HR2.out, if_pos (exp_bad HSP.out (by rw [← Lib.size_eq]; exact hj5) (.inr (by rw [← Lib.size_eq]; exact e2)))]
                      clear e1 e2
                      go_upto_region 34 with fail
                      refine wp_region_lit ?_
                      go_step
                      go_step
                      go_step
                      refine wpList_store_row rfl 30 (.tmp 2) (.tmp 157) rfl w.heap.size #[.bool false, .bool false, .string ⟨#[]⟩, .string ⟨#[]⟩, .int .i64 0, .int .i64 0, .string ⟨#[]⟩] rfl rfl 30 #[.bool false, .bool false, .string ⟨#[]⟩, .string ⟨#[]⟩, .int .i64 0, .int .i64 0, .string ⟨#[]⟩] HM1.out sz30 rfl (one7 _ _ _ _ _ _ _) ?_
                      obtain ⟨W9, hW9⟩ : ∃ W9, World.setRow W6 w.heap.size #[.bool false, .bool false, .string ⟨#[]⟩, .string ⟨#[]⟩, .int .i64 0, .int .i64 0, .string ⟨#[]⟩] = W9 := ⟨_, rfl⟩
                      have hr9 := setRow_heap W6 w.heap.size _ #[.bool false, .bool false, .string ⟨#[]⟩, .string ⟨#[]⟩, .int .i64 0, .int .i64 0, .string ⟨#[]⟩] 30 _ HM1.out
                      have hb9 := below_setRow HB.out (Nat.le_refl _) #[.bool false, .bool false, .string ⟨#[]⟩, .string ⟨#[]⟩, .int .i64 0, .int .i64 0, .string ⟨#[]⟩]
                      rw [hW9] at hr9 hb9 ⊢
                      have HR9 : Hid (W9.heap[w.heap.size]? = some (.cells #[.bool false, .bool false, .string ⟨#[]⟩, .string ⟨#[]⟩, .int .i64 0, .int .i64 0, .string ⟨#[]⟩] 30 (0, 0))) := hr9
                      have HB9 : Hid (Below w.heap.size w W9) := hb9
                      clear hW9 hr9 hb9
                      repeat go_step
                      refine bodyPost_ret (v := .agg #[.bool false, .bool false, .string ⟨#[]⟩, .string ⟨#[]⟩, .int .i64 0, .int .i64 0, .string ⟨#[]⟩]) (by exact results_cell_row Tryd.results13 _ _ w.heap.size 30 #[.bool false, .bool false, .string ⟨#[]⟩, .string ⟨#[]⟩, .int .i64 0, .int .i64 0, .string ⟨#[]⟩] (0, 0) _ rfl HR9.out Tryd.underlying30 rfl sz30) rfl ⟨false, false, ⟨#[]⟩, ⟨#[]⟩, 0, 0, ⟨#[]⟩, rfl, HZ.out, HB9.out⟩
end Go.Proofs.Qxb6604131aDoor
