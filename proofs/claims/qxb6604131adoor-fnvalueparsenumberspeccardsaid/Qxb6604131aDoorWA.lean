import Derived.Test.Qxb6604131aDoorWR
namespace Go.Proofs.Qxb6604131aDoor
open Go.RowKit
set_option linter.unusedSimpArgs false
set_option linter.unusedVariables false

set_option maxRecDepth 100000 in
set_option maxHeartbeats 8000000 in
theorem scan_any (s : ByteArray) (w : World) (hs : s.size ≤ 65536) : Calls Tryd.prog 13 #[.string s] w (ScA (SC (sgn s.data.toList).1 (sgn s.data.toList).2) w) := by
  go_enter Tryd.func13, Tryd.ntmps13
  go_upto_region 3 with fail
  have hm1 : Scn ((w.alloc (.cells #[.bool false, .bool false, .string ⟨#[]⟩, .string ⟨#[]⟩, .int .i64 0, .int .i64 0, .string ⟨#[]⟩] 30)).alloc (.cells #[.bool false, .bool false, .string ⟨#[]⟩, .string ⟨#[]⟩, .int .i64 0, .int .i64 0, .string ⟨#[]⟩] 30)) w.heap.size false false ⟨#[]⟩ ⟨#[]⟩ 0 0 ⟨#[]⟩ := heap_alloc2_old _ _ _
  have hm2 : Scn ((w.alloc (.cells #[.bool false, .bool false, .string ⟨#[]⟩, .string ⟨#[]⟩, .int .i64 0, .int .i64 0, .string ⟨#[]⟩] 30)).alloc (.cells #[.bool false, .bool false, .string ⟨#[]⟩, .string ⟨#[]⟩, .int .i64 0, .int .i64 0, .string ⟨#[]⟩] 30)) (w.heap.size + 1) false false ⟨#[]⟩ ⟨#[]⟩ 0 0 ⟨#[]⟩ := heap_alloc2_new _ _ _
  have hbl : Below w.heap.size w ((w.alloc (.cells #[.bool false, .bool false, .string ⟨#[]⟩, .string ⟨#[]⟩, .int .i64 0, .int .i64 0, .string ⟨#[]⟩] 30)).alloc (.cells #[.bool false, .bool false, .string ⟨#[]⟩, .string ⟨#[]⟩, .int .i64 0, .int .i64 0, .string ⟨#[]⟩] 30)) := ((Below.refl _ w).alloc (Nat.le_refl _) _).alloc (by simp) _
  obtain ⟨W, hW⟩ : ∃ W, (w.alloc (.cells #[.bool false, .bool false, .string ⟨#[]⟩, .string ⟨#[]⟩, .int .i64 0, .int .i64 0, .string ⟨#[]⟩] 30)).alloc (.cells #[.bool false, .bool false, .string ⟨#[]⟩, .string ⟨#[]⟩, .int .i64 0, .int .i64 0, .string ⟨#[]⟩] 30) = W := ⟨_, rfl⟩
  rw [hW] at hm1 hm2 hbl ⊢
  have HM1 : Hid (Scn W w.heap.size false false ⟨#[]⟩ ⟨#[]⟩ 0 0 ⟨#[]⟩) := hm1
  have HM2 : Hid (Scn W (w.heap.size + 1) false false ⟨#[]⟩ ⟨#[]⟩ 0 0 ⟨#[]⟩) := hm2
  have HB : Hid (Below w.heap.size w W) := hbl
  clear hW hm1 hm2 hbl
  go_cut [23] (fun v wx => Tst (At s 0) v ∧ wx = W)
  case first => as_aux_lemma =>
    by_cases h0 : 0 < s.size
    · have h0I : (0 : Int) < (s.size : Int) := by omega
      have hat : At s 0 ↔ s[0].toNat = 43 ∨ s[0].toNat = 45 := ⟨fun ⟨_, h⟩ => h, fun h => ⟨h0, h⟩⟩
      obtain ⟨y, hy⟩ : ∃ y, s[0].toNat = y := ⟨_, rfl⟩
      rw [hy] at hat
      have HA : Hid (At s 0 ↔ y = 43 ∨ y = 45) := hat
      clear hat
      by_cases e1 : y = 43
      · have k1 : ((y : Int) == 43) = true := beq_iff_eq.2 (by omega)
        go_wp2_with fail
        go_meet
        case rel => exact ⟨⟨true, rfl, ⟨fun _ => HA.out.2 (.inl e1), fun _ => rfl⟩⟩, rfl⟩
      · have k1 : ((y : Int) == 43) = false := beq_eq_false_iff_ne.2 (by omega)
        by_cases e2 : y = 45
        · have k2 : ((y : Int) == 45) = true := beq_iff_eq.2 (by omega)
          go_wp2_with fail
          go_meet
          case rel => exact ⟨⟨true, rfl, ⟨fun _ => HA.out.2 (.inr e2), fun _ => rfl⟩⟩, rfl⟩
        · have k2 : ((y : Int) == 45) = false := beq_eq_false_iff_ne.2 (by omega)
          go_wp2_with fail
          go_meet
          case rel => exact ⟨⟨false, rfl, ⟨fun h => (by cases h), fun h => absurd (HA.out.1 h) (by omega)⟩⟩, rfl⟩
    · have h0I : ¬ (0 : Int) < (s.size : Int) := by omega
      go_wp2_with fail
      go_meet
      case rel => exact ⟨⟨false, rfl, ⟨fun h => (by cases h), fun h => absurd h.1 h0⟩⟩, rfl⟩
  case rest =>
    obtain ⟨⟨t1, rfl, ht1⟩, rfl⟩ := hcut
    have HT : Hid (t1 = true ↔ At s 0) := ht1
    clear ht1
    go_upto_if 23 with fail
    go_cut [4] (fun v wx => K1 s w v wx)
    case first => as_aux_lemma =>
      have c1 := HM2.out.c1
      have f2 := HM2.out.fz
      cases t1 with
      | true =>
        obtain ⟨h0, hy⟩ := HT.out.1 rfl
        have h0I : (0 : Int) < (s.size : Int) := by omega
        have HS : Hid (sgn s.data.toList = (((s[0].toNat : Int) == 45), s.data.toList.drop 1)) := sgn_at h0 hy
        clear hy
        go_wp2_with fail
        go_meet
        case rel => exact ⟨1, _, rfl, h0, HS.out, HM1.out.other (by omega) _, HM2.out.set1 _, HB.out.setCell (Nat.le_succ _) _⟩
      | false =>
        have HS : Hid (sgn s.data.toList = (false, s.data.toList.drop 0)) := sgn_not (s := s) (k := 0) (fun h => by have := HT.out.2 h; cases this)
        go_wp2_with fail
        go_meet
        case rel => exact ⟨0, false, rfl, Nat.zero_le _, HS.out, HM1.out, HM2.out, HB.out⟩
    case rest =>
      clear HM1 HM2 HB HT
      obtain ⟨p, neg, rfl, hp, hsg, n1, n2, hb⟩ := hcut
      have HSS : Hid (SC (sgn s.data.toList).1 (sgn s.data.toList).2 = SC neg (s.data.toList.drop p)) := by show _ = _; rw [hsg]
      clear hsg
      have HM1 : Hid (Scn wc w.heap.size false false ⟨#[]⟩ ⟨#[]⟩ 0 0 ⟨#[]⟩) := n1
      have HM2 : Hid (Scn wc (w.heap.size + 1) false neg ⟨#[]⟩ ⟨#[]⟩ 0 0 ⟨#[]⟩) := n2
      have HB : Hid (Below w.heap.size w wc) := hb
      clear n1 n2 hb
      obtain ⟨W1, hW1⟩ : ∃ W1, wc = W1 := ⟨_, rfl⟩
      rw [hW1] at HM1 HM2 HB ⊢
      clear hW1
      go_upto_block 0 with fail
      go_cut [4] (fun v wx => K2 s p v ∧ wx = W1)
      case first => as_aux_lemma =>
        go_wp2_with fail
        go_loop [4] (fun v => ∃ i9 : Nat, v = .int .i64 i9 ∧ i9 ≤ s.size ∧ Hid (Spn s.data.toList p i9)) (fun v => s.size - (intOf v).toNat)
        case atStart => exact ⟨p, rfl, hp, Spn.start _ _⟩
        case round =>
          obtain ⟨j2, rfl, hj2, hsp⟩ := hrel
          by_cases h1 : j2 < s.size
          · have h1I : (j2 : Int) < (s.size : Int) := by omega
            have hgl := get_list s j2 h1
            obtain ⟨y, hy⟩ : ∃ y, s[j2].toNat = y := ⟨_, rfl⟩
            have hyl : y < 256 := by rw [← hy]; exact s[j2].toNat_lt
            by_cases h2 : 48 ≤ y ∧ y ≤ 57
            · have HN : Hid (Spn s.data.toList p (j2 + 1)) := hsp.out.step hgl ((isD_num _).2 (by rw [hy]; exact h2))
              have cd := isdig_any y hyl true ⟨fun _ => h2, fun _ => rfl⟩ W1
              clear hgl h2 hsp
              go_wp2_with (go_at_call 22; refine cd.mono ?_; rintro e w' ⟨rfl, hw⟩; rw [hw]; clear hw w')
              exact ⟨⟨j2 + 1, by go_num, h1, HN⟩, by simp [intOf]; omega⟩
            · have HN : Hid (Spd s.data.toList p j2) := hsp.out.stop hgl (isD_not (by rw [hy]; exact h2))
              have cd := isdig_any y hyl false ⟨fun h => (by cases h), fun h => absurd h h2⟩ W1
              clear hgl h2 hsp
              go_wp2_with (go_at_call 22; refine cd.mono ?_; rintro e w' ⟨rfl, hw⟩; rw [hw]; clear hw w')
              go_meet
              case rel => exact ⟨⟨j2, rfl, hj2, HN.out⟩, rfl⟩
          · have h1I : ¬ (j2 : Int) < (s.size : Int) := by omega
            have HN : Hid (Spd s.data.toList p j2) := hsp.out.over (by rw [← Lib.size_eq]; omega)
            clear hsp
            go_wp2_with fail
            go_meet
            case rel => exact ⟨⟨j2, rfl, hj2, HN.out⟩, rfl⟩
      case rest =>
        obtain ⟨⟨j, rfl, hj, hsp⟩, hw⟩ := hcut
        rw [hw]
        clear hw
        have HSP : Hid (Spd s.data.toList p j) := hsp
        have hpj : p ≤ j := hsp.1
        have hpI : (p : Int) ≤ (j : Int) := by omega
        have hjI : (j : Int) ≤ (s.size : Int) := by omega
        clear hsp
        have c2 := HM2.out.c2
        have f2 := HM2.out.fz
        go_upto_region 10 with fail
        have n1 := HM1.out.other (k := w.heap.size + 1) (i := 2) (by omega) (.string (s.extract p j))
        have n2 := HM2.out.set2 (s.extract p j)
        have hb := HB.out.setCell (p := ⟨w.heap.size + 1, 2, none⟩) (Nat.le_succ _) (.string (s.extract p j))
        obtain ⟨W2, hW2⟩ : ∃ W2, W1.setCell ⟨w.heap.size + 1, 2, none⟩ (.string (s.extract p j)) = W2 := ⟨_, rfl⟩
        rw [hW2] at n1 n2 hb ⊢
        clear hW2 c2 f2 HM1 HM2 HB
        obtain ⟨a, ha⟩ : ∃ a, s.extract p j = a := ⟨_, rfl⟩
        have HAL : Hid ((s.data.toList.take j).drop p = a.data.toList) := by show _ = _; rw [← ha, ext_mid]
        rw [ha] at n2
        clear ha
        have HM1 : Hid (Scn W2 w.heap.size false false ⟨#[]⟩ ⟨#[]⟩ 0 0 ⟨#[]⟩) := n1
        have HM2 : Hid (Scn W2 (w.heap.size + 1) false neg a ⟨#[]⟩ 0 0 ⟨#[]⟩) := n2
        have HB : Hid (Below w.heap.size w W2) := hb
        clear n1 n2 hb
        go_cut [58] (fun v wx => Tst (s.data.toList[j]? = some 46) v ∧ wx = W2)
        case first => as_aux_lemma =>
          by_cases h1 : j < s.size
          · have h1I : (j : Int) < (s.size : Int) := by omega
            have hgl := get_list s j h1
            have hu : s[j].toNat = 46 ↔ s.data.toList[j]? = some 46 := ⟨fun e => by rw [hgl, u8_of (n := 46) e (by decide)]; rfl, fun e => by rw [hgl] at e; rw [Option.some.inj e]; rfl⟩
            obtain ⟨y, hy⟩ : ∃ y, s[j].toNat = y := ⟨_, rfl⟩
            rw [hy] at hu
            have HU : Hid (y = 46 ↔ s.data.toList[j]? = some 46) := hu
            clear hgl hu
            by_cases e1 : y = 46
            · have k1 : ((y : Int) == 46) = true := beq_iff_eq.2 (by omega)
              go_wp2_with fail
              go_meet
              case rel => exact ⟨⟨true, rfl, ⟨fun _ => HU.out.1 e1, fun _ => rfl⟩⟩, rfl⟩
            · have k1 : ((y : Int) == 46) = false := beq_eq_false_iff_ne.2 (by omega)
              go_wp2_with fail
              go_meet
              case rel => exact ⟨⟨false, rfl, ⟨fun h => (by cases h), fun h => absurd (HU.out.2 h) e1⟩⟩, rfl⟩
          · have h1I : ¬ (j : Int) < (s.size : Int) := by omega
            have HU : Hid (s.data.toList[j]? = none) := List.getElem?_eq_none (by rw [← Lib.size_eq]; omega)
            go_wp2_with fail
            go_meet
            case rel => exact ⟨⟨false, rfl, ⟨fun h => (by cases h), fun h => (by rw [HU.out] at h; cases h)⟩⟩, rfl⟩
        case rest =>
          obtain ⟨⟨t2, rfl, ht2⟩, hw⟩ := hcut
          rw [hw]
          clear hw
          have HT : Hid (t2 = true ↔ s.data.toList[j]? = some 46) := ht2
          clear ht2
          go_upto_if 58 with fail
          go_cut [4, 6] (fun v _ wx => K4 s w neg p v wx)
          case first => as_aux_lemma =>
            have c3 := HM2.out.c3
            have f2 := HM2.out.fz
            cases t2 with
            | true =>
              have HP : Hid (s.data.toList[j]? = some 46) := HT.out.1 rfl
              have hjs : j < s.size := by
                have := (List.getElem?_eq_some_iff.1 HP.out).1
                rw [← Lib.size_eq] at this
                exact this
              go_wp2_with fail
              go_loop [4] (fun v => ∃ i9 : Nat, v = .int .i64 i9 ∧ i9 ≤ s.size ∧ Hid (Spn s.data.toList (j + 1) i9)) (fun v => s.size - (intOf v).toNat)
              case atStart => exact ⟨(j + 1), by go_num, hjs, Spn.start _ _⟩
              case round =>
                obtain ⟨j2, rfl, hj2, hsp⟩ := hrel
                by_cases h1 : j2 < s.size
                · have h1I : (j2 : Int) < (s.size : Int) := by omega
                  have hgl := get_list s j2 h1
                  obtain ⟨y, hy⟩ : ∃ y, s[j2].toNat = y := ⟨_, rfl⟩
                  have hyl : y < 256 := by rw [← hy]; exact s[j2].toNat_lt
                  by_cases h2 : 48 ≤ y ∧ y ≤ 57
                  · have HN : Hid (Spn s.data.toList (j + 1) (j2 + 1)) := hsp.out.step hgl ((isD_num _).2 (by rw [hy]; exact h2))
                    have cd := isdig_any y hyl true ⟨fun _ => h2, fun _ => rfl⟩ W2
                    clear hgl h2 hsp
                    go_wp2_with (go_at_call 22; refine cd.mono ?_; rintro e w' ⟨rfl, hw⟩; rw [hw]; clear hw w')
                    exact ⟨⟨j2 + 1, by go_num, h1, HN⟩, by simp [intOf]; omega⟩
                  · have HN : Hid (Spd s.data.toList (j + 1) j2) := hsp.out.stop hgl (isD_not (by rw [hy]; exact h2))
                    have cd := isdig_any y hyl false ⟨fun h => (by cases h), fun h => absurd h h2⟩ W2
                    clear hgl h2 hsp
                    have hj2I : (j2 : Int) ≤ (s.size : Int) := by omega
                    have hjj : j + 1 ≤ j2 := HN.out.1
                    have hjjI : (j : Int) + 1 ≤ (j2 : Int) := by omega
                    go_wp2_with (go_at_call 22; refine cd.mono ?_; rintro e w' ⟨rfl, hw⟩; rw [hw]; clear hw w')
                    go_meet
                    case rel => exact ⟨j2, a, s.extract (j + 1) j2, rfl, hj2, by omega, by rw [ext_mid, ← HAL.out]; exact sc_point HSP.out HP.out HN.out (by rw [← Lib.size_eq]; exact hj2), HM1.out.other (by omega) _, HM2.out.set3 _, HB.out.setCell (Nat.le_succ _) _⟩
                · have h1I : ¬ (j2 : Int) < (s.size : Int) := by omega
                  have HN : Hid (Spd s.data.toList (j + 1) j2) := hsp.out.over (by rw [← Lib.size_eq]; omega)
                  clear hsp
                  have hj2I : (j2 : Int) ≤ (s.size : Int) := by omega
                  have hjj : j + 1 ≤ j2 := HN.out.1
                  have hjjI : (j : Int) + 1 ≤ (j2 : Int) := by omega
                  go_wp2_with fail
                  go_meet
                  case rel => exact ⟨j2, a, s.extract (j + 1) j2, rfl, hj2, by omega, by rw [ext_mid, ← HAL.out]; exact sc_point HSP.out HP.out HN.out (by rw [← Lib.size_eq]; exact hj2), HM1.out.other (by omega) _, HM2.out.set3 _, HB.out.setCell (Nat.le_succ _) _⟩
            | false =>
              have HP : Hid (¬ s.data.toList[j]? = some 46) := fun h => by have := HT.out.2 h; cases this
              go_wp2_with fail
              go_meet
              case rel => exact ⟨j, a, ⟨#[]⟩, rfl, hj, hpj, by rw [← HAL.out]; exact sc_plain HSP.out HP.out (by rw [← Lib.size_eq]; exact hj), HM1.out, HM2.out, HB.out⟩
          case rest =>
            go_step
            exact scan_rest s w hs p neg HSS _ _ _ _ _ _ _ _ _ _ _ _ _ _ _ _ _ _ _ _ _ _ _ _ _ _ _ _ _ _ _ _ _ _ _ _ _ _ _ _ _ _ _ _ _ _ _ _ _ _ _ _ _ _ _ _ _ _ _ _ _ _ _ _ _ _ _ _ _ _ _ _ _ _ _ _ _ _ _ _ _ _ _ _ _ _ _ _ _ _ _ _ _ _ _ _ _ _ _ _ _ _ _ _ _ _ _ _ _ _ _ _ _ _ _ _ _ _ _ _ _ _ _ _ _ _ _ _ _ _ _ _ _ _ _ _ _ _ _ _ _ _ _ _ _ _ _ _ _ _ _ _ _ _ _ _ _ _ _ hcut
end Go.Proofs.Qxb6604131aDoor
