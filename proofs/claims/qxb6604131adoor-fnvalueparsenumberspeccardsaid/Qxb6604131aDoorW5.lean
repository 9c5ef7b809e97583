import Derived.Test.Qxb6604131aDoorW4
namespace Go.Proofs.Qxb6604131aDoor
open Go.RowKit
set_option linter.unusedSimpArgs false
set_option linter.unusedVariables false

theorem app_list (a b : ByteArray) : (a ++ b).data.toList = a.data.toList ++ b.data.toList := by simp
theorem rep_zeros : ∀ c : Nat, Lib.repeatL [48] c = zeros c
  | 0 => rfl
  | c + 1 => by
    unfold Lib.repeatL
    rw [rep_zeros c]; rfl
theorem rep_any (c : Nat) (w : World) (hc : c ≤ 1048576) :
    Calls Tryd.prog 23 #[.string ⟨#[48]⟩, .int .i64 c] w fun e w' => ∃ r : ByteArray, e = .returned (.string r) ∧ r.data.toList = zeros c ∧ Below w.heap.size w w' := by
  refine (Tryd.strings_Repeat ⟨#[48]⟩ c w (by omega) (by show 1 * c ≤ _; omega)).mono ?_
  rintro e w' ⟨rfl, hb⟩
  exact ⟨_, rfl, by show Lib.repeatL [48] c = zeros c; exact rep_zeros c, hb⟩
theorem sh_long {w f d : List UInt8} {n p : Int} (hd : (w ++ f).dropWhile isZ = d) (h0 : d ≠ []) (hp : (w.length : Int) + n - ((w.length : Int) + (f.length : Int) - (d.length : Int)) = p) (h1 : (d.length : Int) ≤ p) : SH w f n = (d ++ zeros (p - d.length).toNat, []) := by
  unfold SH
  simp only [hd]
  rw [if_neg h0, List.length_append, show (w.length : Int) + n - (((w.length + f.length : Nat) : Int) - (d.length : Int)) = p by omega, if_pos h1]
theorem sh_mid {w f d : List UInt8} {n p : Int} (hd : (w ++ f).dropWhile isZ = d) (h0 : d ≠ []) (hp : (w.length : Int) + n - ((w.length : Int) + (f.length : Int) - (d.length : Int)) = p) (h1 : ¬ (d.length : Int) ≤ p) (h2 : 0 < p) : SH w f n = (d.take p.toNat, d.drop p.toNat) := by
  unfold SH
  simp only [hd]
  rw [if_neg h0, List.length_append, show (w.length : Int) + n - (((w.length + f.length : Nat) : Int) - (d.length : Int)) = p by omega, if_neg h1, if_pos h2]
theorem sh_low {w f d : List UInt8} {n p : Int} (hd : (w ++ f).dropWhile isZ = d) (h0 : d ≠ []) (hp : (w.length : Int) + n - ((w.length : Int) + (f.length : Int) - (d.length : Int)) = p) (h1 : ¬ (d.length : Int) ≤ p) (h2 : ¬ 0 < p) : SH w f n = ([], zeros (-p).toNat ++ d) := by
  unfold SH
  simp only [hd]
  rw [if_neg h0, List.length_append, show (w.length : Int) + n - (((w.length + f.length : Nat) : Int) - (d.length : Int)) = p by omega, if_neg h1, if_neg h2]
set_option maxRecDepth 100000 in
set_option maxHeartbeats 2000000 in
theorem shift_any (neg : Bool) (a b : ByteArray) (n : Int) (w : World) (hz : a.size + b.size ≤ 65536) (hn1 : -100000 ≤ n) (hn2 : n ≤ 100000) :
    Calls Tryd.prog 31 #[.agg #[.bool neg, .string a, .string b], .int .i64 n] w fun e w' => ∃ a2 b2 : ByteArray, e = .returned (.agg #[.bool neg, .string a2, .string b2]) ∧ (a2.data.toList, b2.data.toList) = SH a.data.toList b.data.toList n ∧ Below w.heap.size w w' := by
  go_enter Tryd.func31, Tryd.ntmps31
  go_wp2_with fail
  have hm1 : Num ((w.alloc (.cells #[.bool neg, .string a, .string b] 36)).alloc (.cells #[.bool false, .string ⟨#[]⟩, .string ⟨#[]⟩] 36)) w.heap.size neg a b := heap_alloc2_old _ _ _
  have hm2 : Num ((w.alloc (.cells #[.bool neg, .string a, .string b] 36)).alloc (.cells #[.bool false, .string ⟨#[]⟩, .string ⟨#[]⟩] 36)) (w.heap.size + 1) false ⟨#[]⟩ ⟨#[]⟩ := heap_alloc2_new _ _ _
  have hbl : Below w.heap.size w ((w.alloc (.cells #[.bool neg, .string a, .string b] 36)).alloc (.cells #[.bool false, .string ⟨#[]⟩, .string ⟨#[]⟩] 36)) := ((Below.refl _ w).alloc (Nat.le_refl _) _).alloc (by simp) _
  obtain ⟨W, hW⟩ : ∃ W, (w.alloc (.cells #[.bool neg, .string a, .string b] 36)).alloc (.cells #[.bool false, .string ⟨#[]⟩, .string ⟨#[]⟩] 36) = W := ⟨_, rfl⟩
  rw [hW] at hm1 hm2 hbl ⊢
  have HM1 : Hid (Num W w.heap.size neg a b) := hm1
  have HM2 : Hid (Num W (w.heap.size + 1) false ⟨#[]⟩ ⟨#[]⟩) := hm2
  have HB : Hid (Below w.heap.size w W) := hbl
  clear hW hm1 hm2 hbl
  refine (trimL_any (a ++ b) W).mono ?_
  rintro e w1 ⟨d, rfl, hd, hw⟩
  rw [hw]
  clear hw
  rw [app_list] at hd
  have hdl : d.size ≤ a.size + b.size := by
    have := drop_len isZ (a.data.toList ++ b.data.toList)
    rw [← hd, List.length_append, ← Lib.size_eq, ← Lib.size_eq, ← Lib.size_eq] at this
    exact this
  have HD : Hid ((a.data.toList ++ b.data.toList).dropWhile isZ = d.data.toList) := hd.symm
  clear hd
  have c0 := HM1.out.c0; have c1 := HM1.out.c1; have c2 := HM1.out.c2; have f1 := HM1.out.fz
  have d0 := HM2.out.c0; have d1 := HM2.out.c1; have d2 := HM2.out.c2; have f2 := HM2.out.fz
  by_cases h0 : d.data.toList = []
  · have k : d.toList.isEmpty = true := toList_nil.2 h0
    have HS : Hid (SH a.data.toList b.data.toList n = (a.data.toList, b.data.toList)) := sh_zero n (HD.out.trans h0)
    clear h0
    go_wp2_with fail
    refine bodyPost_ret (v := .agg #[.bool neg, .string a, .string b]) (by simp [results, Tryd.results31, go_sem, c0, c1, c2, d0, d1, d2]) rfl ⟨a, b, rfl, HS.out.symm, ?_⟩
    exact ((HB.out.setCell (Nat.le_succ _) _).setCell (Nat.le_succ _) _).setCell (Nat.le_succ _) _
  · have k : d.toList.isEmpty = false := toList_not h0
    have H0 : Hid (d.data.toList ≠ []) := h0
    clear h0
    obtain ⟨P, hP⟩ : ∃ P : Int, (a.size : Int) + n - ((a.size : Int) + (b.size : Int) - (d.size : Int)) = P := ⟨_, rfl⟩
    have HP : Hid ((a.data.toList.length : Int) + n - ((a.data.toList.length : Int) + (b.data.toList.length : Int) - (d.data.toList.length : Int)) = P) := by
      show _ = P
      rw [← Lib.size_eq, ← Lib.size_eq, ← Lib.size_eq]; exact hP
    have hsz : ((a ++ b).size : Int) = (a.size : Int) + (b.size : Int) := by simp
    by_cases h1 : (d.size : Int) ≤ P
    · obtain ⟨c, hc⟩ : ∃ c : Nat, P - (d.size : Int) = (c : Int) := ⟨(P - d.size).toNat, by omega⟩
      have HSH : Hid (SH a.data.toList b.data.toList n = (d.data.toList ++ zeros c, [])) := by
        have := sh_long HD.out H0.out HP.out (by rw [← Lib.size_eq]; exact h1)
        rw [← Lib.size_eq, show (P - (d.size : Int)).toNat = c by omega] at this
        exact this
      have hcb : c ≤ 1048576 := by omega
      go_wp2_with fail
      refine (rep_any c W hcb).mono ?_
      rintro e w2 ⟨r, rfl, hr, hb2⟩
      have hrz : r.size ≤ 1048576 := by rw [Lib.size_eq, hr]; simp [zeros]; omega
      have HR : Hid (r.data.toList = zeros c) := hr
      have M1 := HM1.out.later hb2 HM1.out.lt
      have M2 := HM2.out.later hb2 HM2.out.lt
      have HB2 : Hid (Below w.heap.size w w2) := HB.out.trans (hb2.mono HB.out.size)
      clear hr hb2 c0 c1 c2 f1 d0 d1 d2 f2
      have c0 := M1.c0; have c1 := M1.c1; have c2 := M1.c2; have f1 := M1.fz
      have d0 := M2.c0; have d1 := M2.c1; have d2 := M2.c2; have f2 := M2.fz
      clear M1 M2
      go_wp2_with fail
      refine bodyPost_ret (v := .agg #[.bool neg, .string (d ++ r), .string ⟨#[]⟩]) (by simp [results, Tryd.results31, go_sem, c0, c1, c2, d0, d1, d2]) rfl ⟨_, _, rfl, ?_, ?_⟩
      · rw [HSH.out]
        rw [app_list, HR.out]
      · exact ((((HB2.out.setCell (Nat.le_refl _) _).setCell (Nat.le_refl _) _).setCell (Nat.le_succ _) _).setCell (Nat.le_succ _) _).setCell (Nat.le_succ _) _
    · by_cases h2 : 0 < P
      · obtain ⟨k2, rfl⟩ : ∃ k2 : Nat, P = (k2 : Int) := ⟨P.toNat, by omega⟩
        have HSH : Hid (SH a.data.toList b.data.toList n = (d.data.toList.take k2, d.data.toList.drop k2)) := by
          have := sh_mid HD.out H0.out HP.out (by rw [← Lib.size_eq]; exact h1) h2
          rw [show ((k2 : Int)).toNat = k2 by omega] at this
          exact this
        have hk2 : (k2 : Int) ≤ (d.size : Int) := by omega
        go_wp2_with fail
        go_region
        go_wp2_with fail
        refine bodyPost_ret (v := .agg #[.bool neg, .string (d.extract 0 k2), .string (d.extract k2 d.size)]) (by simp [results, Tryd.results31, go_sem, c0, c1, c2, d0, d1, d2]) rfl ⟨_, _, rfl, ?_, ?_⟩
        · rw [HSH.out]
          rw [ext_to, ext_from]
        · have hB3 := ((HB.out.setCell (p := ⟨w.heap.size, 1, none⟩) (Nat.le_refl _) (.string (d.extract 0 k2))).setCell (p := ⟨w.heap.size, 2, none⟩) (Nat.le_refl _) (.string (d.extract k2 d.size))).drew
          exact ((hB3.setCell (Nat.le_succ _) _).setCell (Nat.le_succ _) _).setCell (Nat.le_succ _) _
      · obtain ⟨c, hc⟩ : ∃ c : Nat, -P = (c : Int) := ⟨(-P).toNat, by omega⟩
        have HSH : Hid (SH a.data.toList b.data.toList n = ([], zeros c ++ d.data.toList)) := by
          have := sh_low HD.out H0.out HP.out (by rw [← Lib.size_eq]; exact h1) h2
          rw [show (-P).toNat = c by omega] at this
          exact this
        have hcb : c ≤ 1048576 := by omega
        go_wp2_with fail
        refine (rep_any c W hcb).mono ?_
        rintro e w2 ⟨r, rfl, hr, hb2⟩
        have hrz : r.size ≤ 1048576 := by rw [Lib.size_eq, hr]; simp [zeros]; omega
        have HR : Hid (r.data.toList = zeros c) := hr
        have M1 := HM1.out.later hb2 HM1.out.lt
        have M2 := HM2.out.later hb2 HM2.out.lt
        have HB2 : Hid (Below w.heap.size w w2) := HB.out.trans (hb2.mono HB.out.size)
        clear hr hb2 c0 c1 c2 f1 d0 d1 d2 f2
        have c0 := M1.c0; have c1 := M1.c1; have c2 := M1.c2; have f1 := M1.fz
        have d0 := M2.c0; have d1 := M2.c1; have d2 := M2.c2; have f2 := M2.fz
        clear M1 M2
        go_wp2_with fail
        refine bodyPost_ret (v := .agg #[.bool neg, .string ⟨#[]⟩, .string (r ++ d)]) (by simp [results, Tryd.results31, go_sem, c0, c1, c2, d0, d1, d2]) rfl ⟨_, _, rfl, ?_, ?_⟩
        · rw [HSH.out]
          rw [app_list, HR.out]
        · exact ((((HB2.out.setCell (Nat.le_refl _) _).setCell (Nat.le_refl _) _).setCell (Nat.le_succ _) _).setCell (Nat.le_succ _) _).setCell (Nat.le_succ _) _
end Go.Proofs.Qxb6604131aDoor
