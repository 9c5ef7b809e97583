import Derived.Test.Qxb6604131aDoorWA
import Derived.Test.Qxb6604131aDoorWB
import Derived.Test.Qxb6604131aDoorLaw3
namespace Go.Proofs.Qxb6604131aDoor
open Go.RowKit
set_option linter.unusedSimpArgs false
set_option linter.unusedVariables false

theorem law_long (s : ByteArray) (w : World) (hs : (s.size : Int) ≤ 9223372036854775807) (h : 65536 < s.size) :
    Calls Tryd.prog 5 #[.string s] w fun e w' => e = .returned (.bool true) ∧ Below w.heap.size w w' := by
  have c11 := zz11 s w hs
  by_cases h1 : s.size ≤ 1048576
  · rw [decide_eq_true h1] at c11
    have k : (65536 : Int) < (s.size : Int) := by omega
    go_enter Tryd.func5, Tryd.ntmps5
    go_wp2_with fail
    refine c11.mono ?_
    rintro e w0 ⟨rfl, hw⟩
    rw [hw]
    clear hw c11
    go_wp2_with fail
    go_ret
    exact ⟨rfl, Below.refl _ _⟩
  · rw [decide_eq_false h1] at c11
    go_enter Tryd.func5, Tryd.ntmps5
    go_wp2_with fail
    refine c11.mono ?_
    rintro e w0 ⟨rfl, hw⟩
    rw [hw]
    clear hw c11
    go_wp2_with fail
    go_ret
    exact ⟨rfl, Below.refl _ _⟩
set_option maxRecDepth 100000 in
set_option maxHeartbeats 1000000 in
theorem law_short (s : ByteArray) (w : World) (hs : s.size ≤ 65536) :
    Calls Tryd.prog 5 #[.string s] w fun e w' => e = .returned (.bool true) ∧ Below w.heap.size w w' := by
  have c11 := zz11 s w (by omega)
  rw [decide_eq_true (by omega : s.size ≤ 1048576)] at c11
  have k : ¬ (65536 : Int) < (s.size : Int) := by omega
  go_enter Tryd.func5, Tryd.ntmps5
  go_wp2_with fail
  refine c11.mono ?_
  rintro e w0 ⟨rfl, hw⟩
  rw [hw]
  clear hw c11
  go_wp2_with fail
  refine (zz12 s w hs).mono ?_
  rintro e w1 ⟨gneg, gok, ga, gb, rfl, hp, hb1⟩
  have HP : Hid (PN (sgn s.data.toList).1 (sgn s.data.toList).2 = (gneg, ga.data.toList, gb.data.toList, gok)) := hp
  have HB1 : Hid (Below w.heap.size w w1) := hb1
  clear hp hb1
  go_wp2_with fail
  refine (scan_any s w1 hs).mono ?_
  rintro e w2 ⟨ok, neg, a, b, m, sg, d, rfl, hS, hb2⟩
  have HB : Hid (Below w.heap.size w w2) := HB1.out.trans (hb2.mono HB1.out.size)
  clear hb2 HB1
  have HS : Hid (SC (sgn s.data.toList).1 (sgn s.data.toList).2 = ⟨ok, neg, a.data.toList, b.data.toList, m, sg, d.data.toList⟩) := hS
  have HA : Hid (AN ⟨ok, neg, a.data.toList, b.data.toList, m, sg, d.data.toList⟩ = (gneg, ga.data.toList, gb.data.toList, gok)) := by
    show _ = _
    rw [← hS, ← pn_an]; exact HP.out
  clear hS HP
  cases ok with
  | false =>
    have hz := HA.out
    unfold AN at hz
    rw [if_pos rfl] at hz
    simp only [Prod.mk.injEq] at hz
    obtain ⟨rfl, h2, h3, rfl⟩ := hz
    have k2 : ga.toList.isEmpty = true := toList_nil.2 h2.symm
    have k3 : gb.toList.isEmpty = true := toList_nil.2 h3.symm
    clear h2 h3 HA HS
    go_wp2_with fail
    go_ret
    exact ⟨rfl, HB.out.alloc HB.out.size _⟩
  | true =>
    have hf := sc_facts HS.out rfl
    simp only at hf
    have hsl := sgn_len s.data.toList
    rw [← Lib.size_eq] at hsl
    rw [← Lib.size_eq, ← Lib.size_eq, ← Lib.size_eq] at hf
    obtain ⟨f1, f2, f3, f4, f5⟩ := hf
    have hab : a.size + b.size ≤ 65536 := by omega
    have hm : m ≤ 65536 := by omega
    have hd : d.size ≤ 65536 := by omega
    have HD : Hid (d.data.toList.all isD = true) := f3
    have G := an_good ⟨true, neg, a.data.toList, b.data.toList, m, sg, d.data.toList⟩ rfl
    rw [HA.out] at G
    have hgok : gok = true := G.ok
    subst hgok
    have HG : Hid (Good ⟨true, neg, a.data.toList, b.data.toList, m, sg, d.data.toList⟩ (gneg, ga.data.toList, gb.data.toList, true)) := G
    clear f1 f2 f3 f4 hsl G HA HS
    have HF : Hid (sg = 0 ∨ sg = 1 ∨ sg = -1) := f5
    clear f5
    have n0 : Scn (w2.alloc (.cells #[.bool true, .bool neg, .string a, .string b, .int .i64 m, .int .i64 sg, .string d] 30)) w2.heap.size true neg a b m sg d := heap_alloc_new _ _
    have hb0 := HB.out.alloc HB.out.size (.cells #[.bool true, .bool neg, .string a, .string b, .int .i64 m, .int .i64 sg, .string d] 30)
    obtain ⟨W, hW⟩ : ∃ W, w2.alloc (.cells #[.bool true, .bool neg, .string a, .string b, .int .i64 m, .int .i64 sg, .string d] 30) = W := ⟨_, rfl⟩
    rw [hW] at n0 hb0
    have HW : Hid (w2.alloc (.cells #[.bool true, .bool neg, .string a, .string b, .int .i64 m, .int .i64 sg, .string d] 30) = W) := hW
    have HN : Hid (Scn W w2.heap.size true neg a b m sg d) := n0
    have HBW : Hid (Below w.heap.size w W) := hb0
    clear hW n0 hb0
    go_wp2_with fail
    rw [HW.out]
    refine (strip_any (a ++ b) W (by simp; omega)).mono ?_
    rintro e w3 ⟨sig, rfl, hsig, hw⟩
    rw [hw]
    clear hw HW
    rw [app_list] at hsig
    have hsz : sig.size ≤ 65536 := by
      have := drop_len isZ (a.data.toList ++ b.data.toList)
      rw [← hsig, List.length_append, ← Lib.size_eq, ← Lib.size_eq, ← Lib.size_eq] at this
      omega
    have HSIG : Hid ((a.data.toList ++ b.data.toList).dropWhile isZ = sig.data.toList) := hsig.symm
    clear hsig
    have c1 := HN.out.c1; have c3 := HN.out.c3; have c4 := HN.out.c4; have c5 := HN.out.c5; have c6 := HN.out.c6; have f2 := HN.out.fz
    by_cases h0 : sig.data.toList = []
    · have k0 : sig.toList.isEmpty = true := toList_nil.2 h0
      obtain ⟨g1, g2, g3⟩ := HG.out.zero (HSIG.out.trans h0)
      have g1' : gneg = false := g1
      have k2 : ga.toList.isEmpty = true := toList_nil.2 g2
      have g3' : gb = b := ba_ext g3
      subst g1' g3'
      clear g1 g2 g3 h0 HG HSIG
      go_wp2_with fail
      go_ret
      exact ⟨rfl, HBW.out⟩
    · have k0 : sig.toList.isEmpty = false := toList_not h0
      have hne : (a.data.toList ++ b.data.toList).dropWhile isZ ≠ [] := by rw [HSIG.out]; exact h0
      have hneg : gneg = neg := HG.out.neg hne
      subst hneg
      obtain ⟨R, hR⟩ : ∃ R, RC (m + 1500) d.data.toList = R := ⟨_, rfl⟩
      have hRl : R ≤ 67036 := by
        have h1 := clampA_le (m + 1500) d.data.toList 0 (Nat.zero_le _)
        rw [← rc_eq, hR] at h1
        omega
      have crc := fun w => rc_any d (m + 1500) w (by omega) (by omega) HD.out
      rw [hR] at crc
      rw [show ((m + 1500 : Nat) : Int) = (m : Int) + 1500 by omega] at crc
      obtain ⟨E, hE⟩ : ∃ E : Int, sg * (R : Int) = E := ⟨_, rfl⟩
      have hEb : -67036 ≤ E ∧ E ≤ 67036 := by
        rcases HF.out with e | e | e <;> rw [e] at hE <;> omega
      obtain ⟨Q, hQ⟩ : ∃ Q : Int, E - (b.size : Int) = Q := ⟨_, rfl⟩
      have hq : Q = sg * (RC (m + 1500) d.data.toList : Int) - (b.data.toList.length : Int) := by rw [hR, hE, ← Lib.size_eq, hQ]
      have hlen : (gb.data.toList.length : Int) = if Q < 0 then -Q else 0 := HG.out.len hne Q hq
      have hval : (ga.data.toList ++ gb.data.toList).dropWhile isZ = (a.data.toList ++ b.data.toList).dropWhile isZ ++ zeros (if 0 < Q then Q else 0).toNat := HG.out.val hne Q hq
      have hhd : ga.data.toList.head? ≠ some 48 := HG.out.head hne
      rw [HSIG.out] at hval
      have hgl := good_len hhd hlen hval 65536 132572 (by rw [← Lib.size_eq]; exact hsz) (by omega) (by omega)
      rw [← Lib.size_eq, ← Lib.size_eq] at hgl
      rw [← Lib.size_eq] at hlen
      have HLEN : Hid ((gb.size : Int) = if Q < 0 then -Q else 0) := hlen
      have HVAL : Hid ((ga.data.toList ++ gb.data.toList).dropWhile isZ = sig.data.toList ++ zeros (if 0 < Q then Q else 0).toNat) := hval
      have HHD : Hid (ga.data.toList.head? ≠ some 48) := hhd
      have HE : Hid (sg * (R : Int) = E) := hE
      have HQ : Hid (E - (b.size : Int) = Q) := hQ
      clear hlen hval hhd hR hq hE hQ hne h0 HG HSIG HD
      obtain ⟨e1, e2⟩ := hEb
      go_upto_if 69 with fail
      go_cut [9] (fun v wx => v = .int .i64 E ∧ ∃ n, wx = W.drewN n)
      case first =>
        by_cases hs0 : sg = 0
        · have ks : (sg != 0) = false := by rw [hs0]; rfl
          have hE0 : E = 0 := by have := HE.out; rw [hs0] at this; omega
          clear hs0 HF HE
          go_wp2_with fail
          go_meet
          case rel => exact ⟨by rw [hE0], 0, rfl⟩
        · have ks : (sg != 0) = true := by rw [bne_iff_ne]; exact hs0
          have hE := HE.out
          have hwr : IntKind.i64.wrap (sg * (R : Int)) = E := by rw [hE]; exact IntWalk.i64_in _ (by omega)
          have hwm : IntKind.i64.wrap ((m : Int) + 1500) = (m : Int) + 1500 := IntWalk.i64_in _ (by omega)
          clear HF HE hs0
          go_wp2_with fail
          go_quiet (first | (go_at_call 15; exact Calls.quiet_of_same (crc _)))
          go_wp2_with fail
          go_meet
          case rel => exact ⟨rfl, _, rfl⟩
      case rest =>
        obtain ⟨rfl, n, hw⟩ := hcut
        rw [hw]
        clear hw HF HE crc c1 c3 c4 c5 c6 f2
        have n9 : Scn (W.drewN n) w2.heap.size true gneg a b m sg d := HN.out
        have hb9 := below_drewN HBW.out n
        obtain ⟨V, hV⟩ : ∃ V, W.drewN n = V := ⟨_, rfl⟩
        rw [hV] at n9 hb9 ⊢
        clear hV HN HBW
        have HBV : Hid (Below w.heap.size w V) := hb9
        have c1 := n9.c1; have c3 := n9.c3; have f2 := n9.fz
        clear n9 hb9
        have hQ := HQ.out
        have hQ1 : -132572 ≤ Q := by omega
        have hQ2 : Q ≤ 132572 := by omega
        by_cases q1 : Q < 0
        · have q2 : ¬ 0 < Q := by omega
          have kl : ((gb.size : Int) != -Q) = false := by
            have h := HLEN.out
            rw [if_pos q1] at h
            rw [h]; simp
          have HV2 : Hid ((ga.data.toList ++ gb.data.toList).dropWhile isZ = sig.data.toList ++ zeros 0) := by
            have h := HVAL.out
            rw [if_neg q2] at h
            exact h
          have cs := strip_any (ga ++ gb) V (by simp; omega)
          have cz : ∀ U : World, Calls Tryd.prog 16 #[.int .i64 0] U fun e w' => ∃ r : ByteArray, e = .returned (.string r) ∧ r.data.toList = zeros 0 ∧ Below U.heap.size U w' := fun U => zeros_any 0 U (by omega)
          by_cases hga : ga.data.toList = []
          · have kg : ga.toList.isEmpty = true := toList_nil.2 hga
            clear hga
            go_wp2_with fail
            refine cs.mono ?_
            rintro e w4 ⟨r1, rfl, hr1, hw⟩
            rw [hw]
            clear hw cs
            go_wp2_with fail
            refine (cz V).mono ?_
            rintro e w5 ⟨z, rfl, hz, hb5⟩
            have er : r1 = sig ++ z := ba_ext (by rw [hr1, app_list, app_list, hz]; exact HV2.out)
            have hzz : z.size ≤ 1048576 := by rw [Lib.size_eq, hz, zeros, List.length_replicate]; omega
            subst er
            have HB5 : Hid (Below w.heap.size w w5) := HBV.out.trans (hb5.mono HBV.out.size)
            clear hr1 hz hb5 cz
            go_wp2_with fail
            go_ret
            exact ⟨rfl, HB5.out⟩
          · have kg : ga.toList.isEmpty = false := toList_not hga
            have hg0 : 0 < ga.size := by
              rw [Lib.size_eq]
              exact List.length_pos_iff.2 hga
            have hg0I : (0 : Int) < (ga.size : Int) := by omega
            have hyn : ga[0].toNat ≠ 48 := fun e => HHD.out (by rw [head_zero hg0, u8_of (n := 48) e (by decide)]; rfl)
            obtain ⟨y, hy⟩ : ∃ y, ga[0].toNat = y := ⟨_, rfl⟩
            rw [hy] at hyn
            have ky : ((y : Int) == 48) = false := beq_eq_false_iff_ne.2 (by omega)
            clear hga
            go_wp2_with fail
            refine cs.mono ?_
            rintro e w4 ⟨r1, rfl, hr1, hw⟩
            rw [hw]
            clear hw cs
            go_wp2_with fail
            refine (cz V).mono ?_
            rintro e w5 ⟨z, rfl, hz, hb5⟩
            have er : r1 = sig ++ z := ba_ext (by rw [hr1, app_list, app_list, hz]; exact HV2.out)
            have hzz : z.size ≤ 1048576 := by rw [Lib.size_eq, hz, zeros, List.length_replicate]; omega
            subst er
            have HB5 : Hid (Below w.heap.size w w5) := HBV.out.trans (hb5.mono HBV.out.size)
            clear hr1 hz hb5 cz
            go_wp2_with fail
            go_ret
            exact ⟨rfl, HB5.out⟩
        · have kl : ((gb.size : Int) != 0) = false := by
            have h := HLEN.out
            rw [if_neg q1] at h
            rw [h]; rfl
          by_cases q2 : 0 < Q
          · obtain ⟨N, rfl⟩ : ∃ N : Nat, Q = (N : Int) := ⟨Q.toNat, by omega⟩
            have HV2 : Hid ((ga.data.toList ++ gb.data.toList).dropWhile isZ = sig.data.toList ++ zeros N) := by
              have h := HVAL.out
              rw [if_pos q2] at h
              exact h
            have cs := strip_any (ga ++ gb) V (by simp; omega)
            have cz : ∀ U : World, Calls Tryd.prog 16 #[.int .i64 (N : Int)] U fun e w' => ∃ r : ByteArray, e = .returned (.string r) ∧ r.data.toList = zeros N ∧ Below U.heap.size U w' := fun U => zeros_any N U (by omega)
            by_cases hga : ga.data.toList = []
            · have kg : ga.toList.isEmpty = true := toList_nil.2 hga
              clear hga
              go_wp2_with fail
              refine cs.mono ?_
              rintro e w4 ⟨r1, rfl, hr1, hw⟩
              rw [hw]
              clear hw cs
              go_wp2_with fail
              refine (cz V).mono ?_
              rintro e w5 ⟨z, rfl, hz, hb5⟩
              have er : r1 = sig ++ z := ba_ext (by rw [hr1, app_list, app_list, hz]; exact HV2.out)
              have hzz : z.size ≤ 1048576 := by rw [Lib.size_eq, hz, zeros, List.length_replicate]; omega
              subst er
              have HB5 : Hid (Below w.heap.size w w5) := HBV.out.trans (hb5.mono HBV.out.size)
              clear hr1 hz hb5 cz
              go_wp2_with fail
              go_ret
              exact ⟨rfl, HB5.out⟩
            · have kg : ga.toList.isEmpty = false := toList_not hga
              have hg0 : 0 < ga.size := by
                rw [Lib.size_eq]
                exact List.length_pos_iff.2 hga
              have hg0I : (0 : Int) < (ga.size : Int) := by omega
              have hyn : ga[0].toNat ≠ 48 := fun e => HHD.out (by rw [head_zero hg0, u8_of (n := 48) e (by decide)]; rfl)
              obtain ⟨y, hy⟩ : ∃ y, ga[0].toNat = y := ⟨_, rfl⟩
              rw [hy] at hyn
              have ky : ((y : Int) == 48) = false := beq_eq_false_iff_ne.2 (by omega)
              clear hga
              go_wp2_with fail
              refine cs.mono ?_
              rintro e w4 ⟨r1, rfl, hr1, hw⟩
              rw [hw]
              clear hw cs
              go_wp2_with fail
              refine (cz V).mono ?_
              rintro e w5 ⟨z, rfl, hz, hb5⟩
              have er : r1 = sig ++ z := ba_ext (by rw [hr1, app_list, app_list, hz]; exact HV2.out)
              have hzz : z.size ≤ 1048576 := by rw [Lib.size_eq, hz, zeros, List.length_replicate]; omega
              subst er
              have HB5 : Hid (Below w.heap.size w w5) := HBV.out.trans (hb5.mono HBV.out.size)
              clear hr1 hz hb5 cz
              go_wp2_with fail
              go_ret
              exact ⟨rfl, HB5.out⟩
          · have HV2 : Hid ((ga.data.toList ++ gb.data.toList).dropWhile isZ = sig.data.toList ++ zeros 0) := by
              have h := HVAL.out
              rw [if_neg q2] at h
              exact h
            have cs := strip_any (ga ++ gb) V (by simp; omega)
            have cz : ∀ U : World, Calls Tryd.prog 16 #[.int .i64 0] U fun e w' => ∃ r : ByteArray, e = .returned (.string r) ∧ r.data.toList = zeros 0 ∧ Below U.heap.size U w' := fun U => zeros_any 0 U (by omega)
            by_cases hga : ga.data.toList = []
            · have kg : ga.toList.isEmpty = true := toList_nil.2 hga
              clear hga
              go_wp2_with fail
              refine cs.mono ?_
              rintro e w4 ⟨r1, rfl, hr1, hw⟩
              rw [hw]
              clear hw cs
              go_wp2_with fail
              refine (cz V).mono ?_
              rintro e w5 ⟨z, rfl, hz, hb5⟩
              have er : r1 = sig ++ z := ba_ext (by rw [hr1, app_list, app_list, hz]; exact HV2.out)
              have hzz : z.size ≤ 1048576 := by rw [Lib.size_eq, hz, zeros, List.length_replicate]; omega
              subst er
              have HB5 : Hid (Below w.heap.size w w5) := HBV.out.trans (hb5.mono HBV.out.size)
              clear hr1 hz hb5 cz
              go_wp2_with fail
              go_ret
              exact ⟨rfl, HB5.out⟩
            · have kg : ga.toList.isEmpty = false := toList_not hga
              have hg0 : 0 < ga.size := by
                rw [Lib.size_eq]
                exact List.length_pos_iff.2 hga
              have hg0I : (0 : Int) < (ga.size : Int) := by omega
              have hyn : ga[0].toNat ≠ 48 := fun e => HHD.out (by rw [head_zero hg0, u8_of (n := 48) e (by decide)]; rfl)
              obtain ⟨y, hy⟩ : ∃ y, ga[0].toNat = y := ⟨_, rfl⟩
              rw [hy] at hyn
              have ky : ((y : Int) == 48) = false := beq_eq_false_iff_ne.2 (by omega)
              clear hga
              go_wp2_with fail
              refine cs.mono ?_
              rintro e w4 ⟨r1, rfl, hr1, hw⟩
              rw [hw]
              clear hw cs
              go_wp2_with fail
              refine (cz V).mono ?_
              rintro e w5 ⟨z, rfl, hz, hb5⟩
              have er : r1 = sig ++ z := ba_ext (by rw [hr1, app_list, app_list, hz]; exact HV2.out)
              have hzz : z.size ≤ 1048576 := by rw [Lib.size_eq, hz, zeros, List.length_replicate]; omega
              subst er
              have HB5 : Hid (Below w.heap.size w w5) := HBV.out.trans (hb5.mono HBV.out.size)
              clear hr1 hz hb5 cz
              go_wp2_with fail
              go_ret
              exact ⟨rfl, HB5.out⟩
end Go.Proofs.Qxb6604131aDoor
