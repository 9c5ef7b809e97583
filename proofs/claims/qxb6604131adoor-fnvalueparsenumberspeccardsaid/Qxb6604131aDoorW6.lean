import Derived.Test.Qxb6604131aDoorW5
namespace Go.Proofs.Qxb6604131aDoor
open Go.RowKit
set_option linter.unusedSimpArgs false
set_option linter.unusedVariables false

theorem hp_one (l : List UInt8) (c : UInt8) : Lib.hasPrefix l [c] = decide (l.head? = some c) := by
  unfold Lib.hasPrefix
  cases l with
  | nil => rfl
  | cons x l =>
    by_cases h : x = c
    · subst h; simp [List.isPrefixOf]
    · have h1 : (c == x) = false := beq_eq_false_iff_ne.2 (fun e => h e.symm)
      simp [List.isPrefixOf, h1, h]
theorem hp_yes (s : ByteArray) (c : UInt8) (w : World) (h : s.data.toList.head? = some c) : Calls Tryd.prog 26 #[.string s, .string ⟨#[c]⟩] w fun e w' => e = .returned (.bool true) ∧ w' = w := by
  have := Tryd.strings_HasPrefix s ⟨#[c]⟩ w
  rw [show (⟨#[c]⟩ : ByteArray).data.toList = [c] from rfl, hp_one, decide_eq_true h] at this
  exact this
theorem hp_no (s : ByteArray) (c : UInt8) (w : World) (h : ¬ s.data.toList.head? = some c) : Calls Tryd.prog 26 #[.string s, .string ⟨#[c]⟩] w fun e w' => e = .returned (.bool false) ∧ w' = w := by
  have := Tryd.strings_HasPrefix s ⟨#[c]⟩ w
  rw [show (⟨#[c]⟩ : ByteArray).data.toList = [c] from rfl, hp_one, decide_eq_false h] at this
  exact this
theorem size_of_head {s : ByteArray} {c : UInt8} (h : s.data.toList.head? = some c) : 1 ≤ s.size := by
  rw [Lib.size_eq]
  cases hl : s.data.toList with
  | nil => rw [hl] at h; simp at h
  | cons x l => simp
theorem tail_list (s : ByteArray) : (s.extract 1 s.size).data.toList = s.data.toList.tail := by rw [ext_from]; simp
/-- parseExponent's answer. -/
def PEA (x : List UInt8) (limit : Nat) (w : World) (e : Ending) (w' : World) : Prop := ∃ (n : Int) (ok : Bool), e = .returned (.tuple #[.int .i64 n, .bool ok]) ∧ PE x limit = (if ok = true then some n else none) ∧ Below w.heap.size w w'
set_option maxRecDepth 100000 in
set_option maxHeartbeats 4000000 in
theorem pe_any (x : ByteArray) (limit : Nat) (w : World) (hx : x.size ≤ 65536) (hl : limit ≤ 100000) :
    Calls Tryd.prog 30 #[.string x, .int .i64 limit] w (PEA x.data.toList limit w) := by
  by_cases hm : x.data.toList.head? = some 45
  · -- a minus
    have k1 : (1 : Int) ≤ (x.size : Int) := by have := size_of_head hm; omega
    obtain ⟨t, ht⟩ : ∃ t, x.extract 1 x.size = t := ⟨_, rfl⟩
    have HTL : Hid (t.data.toList = x.data.toList.tail) := by show t.data.toList = _; rw [← ht]; exact tail_list x
    have HSG : Hid (sgn x.data.toList = (true, t.data.toList)) := by show sgn x.data.toList = _; unfold sgn; rw [if_pos hm, HTL.out]
    have htz0 : t.size ≤ x.size := by rw [← ht]; simp
    have c1 := hp_yes x 45 w hm
    clear hm
    go_enter Tryd.func30, Tryd.ntmps30
    go_wp2_with fail
    refine c1.mono ?_
    rintro e w0 ⟨rfl, hw⟩
    rw [hw]
    clear hw c1
    have htz : t.size ≤ 65536 := by omega
    have HS : Hid (sgn x.data.toList = (true, t.data.toList)) := HSG
    by_cases h0 : t.data.toList = []
    · have k0 : t.toList.isEmpty = true := toList_nil.2 h0
      have HPE : Hid (PE x.data.toList limit = none) := pe_none (.inl (by rw [HS.out]; exact h0))
      clear h0
      go_wp2_with fail
      go_ret2
      exact ⟨_, false, rfl, HPE.out, Below.refl _ _⟩
    · have k0 : t.toList.isEmpty = false := toList_not h0
      have H0 : Hid (t.data.toList ≠ []) := h0
      clear h0
      have ca := alldig_any t w (by omega)
      cases hb : t.data.toList.all isD with
      | false =>
        rw [hb] at ca
        have HPE : Hid (PE x.data.toList limit = none) := pe_none (.inr (by rw [HS.out]; exact hb))
        clear hb
        go_wp2_with fail
        refine ca.mono ?_
        rintro e w1 ⟨rfl, hb1⟩
        have HB1 : Hid (Below w.heap.size w w1) := hb1
        clear hb1 ca
        go_wp2_with fail
        go_ret2
        exact ⟨_, false, rfl, HPE.out, HB1.out⟩
      | true =>
        rw [hb] at ca
        have HDG : Hid (∀ (j : Nat) (h : j < t.size), 48 ≤ t[j].toNat ∧ t[j].toNat ≤ 57) := fun j h => (isD_num _).1 (List.all_eq_true.1 hb t[j] (List.mem_of_getElem? (get_list t j h)))
        obtain ⟨R, hR⟩ : ∃ R, clampA limit t.data.toList 0 = R := ⟨_, rfl⟩
        have HPE : Hid (PE x.data.toList limit = some ((-1) * (R : Int))) := by
          show PE x.data.toList limit = _
          rw [pe_some (by rw [HS.out]; rintro (h | h); exact H0.out h; exact absurd (hb.symm.trans h) (by decide)), HS.out, hR]
          rfl
        have HR : Hid (clampA limit t.data.toList 0 = R) := hR
        clear hb hR
        go_wp2_with fail
        refine ca.mono ?_
        rintro e w1 ⟨rfl, hb1⟩
        have HB1 : Hid (Below w.heap.size w w1) := hb1
        clear hb1 ca
        go_wp2_with fail
        go_loop [7, 8] (fun v y => ∃ i n : Nat, i ≤ t.size ∧ v = .int .i64 n ∧ y = .int .i64 i ∧ n ≤ limit ∧ Hid (clampA limit (t.data.toList.drop i) n = R)) (fun _ y => t.size - (intOf y).toNat)
        case atStart => exact ⟨0, 0, Nat.zero_le _, rfl, rfl, Nat.zero_le _, HR⟩
        case round =>
          obtain ⟨i, n, hi, rfl, rfl, hn, hc⟩ := hrel
          by_cases h1 : i < t.size
          · have h1I : (i : Int) < (t.size : Int) := by omega
            have hdc := drop_cons t i h1
            have hdig := HDG.out i h1
            have HST : Hid (clampA limit (t.data.toList.drop (i + 1)) (min (n * 10 + (t[i].toNat - 48)) limit) = R) := by
              have := hc.out
              rw [hdc] at this
              exact this
            obtain ⟨y, hy⟩ : ∃ y, t[i].toNat = y := ⟨_, rfl⟩
            rw [hy] at hdig HST
            have hw : IntKind.u8.wrap ((y : Int) - 48) = ((y - 48 : Nat) : Int) := by rw [IntKind.wrap_u8]; omega
            have hz : (y : Int) - 48 = ((y - 48 : Nat) : Int) := by omega
            obtain ⟨M, hM⟩ : ∃ M, min (n * 10 + (y - 48)) limit = M := ⟨_, rfl⟩
            rw [hM] at HST
            have hMI : min ((n : Int) * 10 + ((y - 48 : Nat) : Int)) (limit : Int) = (M : Int) := by omega
            have hMl : M ≤ limit := by omega
            clear hdc hM
            go_wp2
            exact ⟨⟨i + 1, M, by omega, by first | rfl | go_num, by go_num, hMl, HST⟩, by simp [intOf]; omega⟩
          · have h1I : ¬ (i : Int) < (t.size : Int) := by omega
            obtain rfl : n = R := by
              have := hc.out
              rw [drop_end t i (by omega)] at this
              exact this
            go_wp2
            go_ret2
            exact ⟨_, true, rfl, by rw [HPE.out]; simp, HB1.out⟩
  · by_cases hp : x.data.toList.head? = some 43
    · have k1 : (1 : Int) ≤ (x.size : Int) := by have := size_of_head hp; omega
      obtain ⟨t, ht⟩ : ∃ t, x.extract 1 x.size = t := ⟨_, rfl⟩
      have HTL : Hid (t.data.toList = x.data.toList.tail) := by show t.data.toList = _; rw [← ht]; exact tail_list x
      have HSG : Hid (sgn x.data.toList = (false, t.data.toList)) := by show sgn x.data.toList = _; unfold sgn; rw [if_neg hm, if_pos hp, HTL.out]
      have htz0 : t.size ≤ x.size := by rw [← ht]; simp
      have c1 := hp_no x 45 w hm
      have c2 := hp_yes x 43 w hp
      clear hm hp
      go_enter Tryd.func30, Tryd.ntmps30
      go_wp2_with fail
      refine c1.mono ?_
      rintro e w0 ⟨rfl, hw⟩
      rw [hw]
      clear hw c1
      go_wp2_with fail
      refine c2.mono ?_
      rintro e w0 ⟨rfl, hw⟩
      rw [hw]
      clear hw c2
      have htz : t.size ≤ 65536 := by omega
      have HS : Hid (sgn x.data.toList = (false, t.data.toList)) := HSG
      by_cases h0 : t.data.toList = []
      · have k0 : t.toList.isEmpty = true := toList_nil.2 h0
        have HPE : Hid (PE x.data.toList limit = none) := pe_none (.inl (by rw [HS.out]; exact h0))
        clear h0
        go_wp2_with fail
        go_ret2
        exact ⟨_, false, rfl, HPE.out, Below.refl _ _⟩
      · have k0 : t.toList.isEmpty = false := toList_not h0
        have H0 : Hid (t.data.toList ≠ []) := h0
        clear h0
        have ca := alldig_any t w (by omega)
        cases hb : t.data.toList.all isD with
        | false =>
          rw [hb] at ca
          have HPE : Hid (PE x.data.toList limit = none) := pe_none (.inr (by rw [HS.out]; exact hb))
          clear hb
          go_wp2_with fail
          refine ca.mono ?_
          rintro e w1 ⟨rfl, hb1⟩
          have HB1 : Hid (Below w.heap.size w w1) := hb1
          clear hb1 ca
          go_wp2_with fail
          go_ret2
          exact ⟨_, false, rfl, HPE.out, HB1.out⟩
        | true =>
          rw [hb] at ca
          have HDG : Hid (∀ (j : Nat) (h : j < t.size), 48 ≤ t[j].toNat ∧ t[j].toNat ≤ 57) := fun j h => (isD_num _).1 (List.all_eq_true.1 hb t[j] (List.mem_of_getElem? (get_list t j h)))
          obtain ⟨R, hR⟩ : ∃ R, clampA limit t.data.toList 0 = R := ⟨_, rfl⟩
          have HPE : Hid (PE x.data.toList limit = some (1 * (R : Int))) := by
            show PE x.data.toList limit = _
            rw [pe_some (by rw [HS.out]; rintro (h | h); exact H0.out h; exact absurd (hb.symm.trans h) (by decide)), HS.out, hR]
            rfl
          have HR : Hid (clampA limit t.data.toList 0 = R) := hR
          clear hb hR
          go_wp2_with fail
          refine ca.mono ?_
          rintro e w1 ⟨rfl, hb1⟩
          have HB1 : Hid (Below w.heap.size w w1) := hb1
          clear hb1 ca
          go_wp2_with fail
          go_loop [7, 8] (fun v y => ∃ i n : Nat, i ≤ t.size ∧ v = .int .i64 n ∧ y = .int .i64 i ∧ n ≤ limit ∧ Hid (clampA limit (t.data.toList.drop i) n = R)) (fun _ y => t.size - (intOf y).toNat)
          case atStart => exact ⟨0, 0, Nat.zero_le _, rfl, rfl, Nat.zero_le _, HR⟩
          case round =>
            obtain ⟨i, n, hi, rfl, rfl, hn, hc⟩ := hrel
            by_cases h1 : i < t.size
            · have h1I : (i : Int) < (t.size : Int) := by omega
              have hdc := drop_cons t i h1
              have hdig := HDG.out i h1
              have HST : Hid (clampA limit (t.data.toList.drop (i + 1)) (min (n * 10 + (t[i].toNat - 48)) limit) = R) := by
                have := hc.out
                rw [hdc] at this
                exact this
              obtain ⟨y, hy⟩ : ∃ y, t[i].toNat = y := ⟨_, rfl⟩
              rw [hy] at hdig HST
              have hw : IntKind.u8.wrap ((y : Int) - 48) = ((y - 48 : Nat) : Int) := by rw [IntKind.wrap_u8]; omega
              have hz : (y : Int) - 48 = ((y - 48 : Nat) : Int) := by omega
              obtain ⟨M, hM⟩ : ∃ M, min (n * 10 + (y - 48)) limit = M := ⟨_, rfl⟩
              rw [hM] at HST
              have hMI : min ((n : Int) * 10 + ((y - 48 : Nat) : Int)) (limit : Int) = (M : Int) := by omega
              have hMl : M ≤ limit := by omega
              clear hdc hM
              go_wp2
              exact ⟨⟨i + 1, M, by omega, by first | rfl | go_num, by go_num, hMl, HST⟩, by simp [intOf]; omega⟩
            · have h1I : ¬ (i : Int) < (t.size : Int) := by omega
              obtain rfl : n = R := by
                have := hc.out
                rw [drop_end t i (by omega)] at this
                exact this
              go_wp2
              go_ret2
              exact ⟨_, true, rfl, by rw [HPE.out]; simp, HB1.out⟩
    · have HSG : Hid (sgn x.data.toList = (false, x.data.toList)) := by show sgn x.data.toList = _; unfold sgn; rw [if_neg hm, if_neg hp]
      have c1 := hp_no x 45 w hm
      have c2 := hp_no x 43 w hp
      clear hm hp
      go_enter Tryd.func30, Tryd.ntmps30
      go_wp2_with fail
      refine c1.mono ?_
      rintro e w0 ⟨rfl, hw⟩
      rw [hw]
      clear hw c1
      go_wp2_with fail
      refine c2.mono ?_
      rintro e w0 ⟨rfl, hw⟩
      rw [hw]
      clear hw c2
      have htz : x.size ≤ 65536 := hx
      have HS : Hid (sgn x.data.toList = (false, x.data.toList)) := HSG
      by_cases h0 : x.data.toList = []
      · have k0 : x.toList.isEmpty = true := toList_nil.2 h0
        have HPE : Hid (PE x.data.toList limit = none) := pe_none (.inl (by rw [HS.out]; exact h0))
        clear h0
        go_wp2_with fail
        go_ret2
        exact ⟨_, false, rfl, HPE.out, Below.refl _ _⟩
      · have k0 : x.toList.isEmpty = false := toList_not h0
        have H0 : Hid (x.data.toList ≠ []) := h0
        clear h0
        have ca := alldig_any x w (by omega)
        cases hb : x.data.toList.all isD with
        | false =>
          rw [hb] at ca
          have HPE : Hid (PE x.data.toList limit = none) := pe_none (.inr (by rw [HS.out]; exact hb))
          clear hb
          go_wp2_with fail
          refine ca.mono ?_
          rintro e w1 ⟨rfl, hb1⟩
          have HB1 : Hid (Below w.heap.size w w1) := hb1
          clear hb1 ca
          go_wp2_with fail
          go_ret2
          exact ⟨_, false, rfl, HPE.out, HB1.out⟩
        | true =>
          rw [hb] at ca
          have HDG : Hid (∀ (j : Nat) (h : j < x.size), 48 ≤ x[j].toNat ∧ x[j].toNat ≤ 57) := fun j h => (isD_num _).1 (List.all_eq_true.1 hb x[j] (List.mem_of_getElem? (get_list x j h)))
          obtain ⟨R, hR⟩ : ∃ R, clampA limit x.data.toList 0 = R := ⟨_, rfl⟩
          have HPE : Hid (PE x.data.toList limit = some (1 * (R : Int))) := by
            show PE x.data.toList limit = _
            rw [pe_some (by rw [HS.out]; rintro (h | h); exact H0.out h; exact absurd (hb.symm.trans h) (by decide)), HS.out, hR]
            rfl
          have HR : Hid (clampA limit x.data.toList 0 = R) := hR
          clear hb hR
          go_wp2_with fail
          refine ca.mono ?_
          rintro e w1 ⟨rfl, hb1⟩
          have HB1 : Hid (Below w.heap.size w w1) := hb1
          clear hb1 ca
          go_wp2_with fail
          go_loop [7, 8] (fun v y => ∃ i n : Nat, i ≤ x.size ∧ v = .int .i64 n ∧ y = .int .i64 i ∧ n ≤ limit ∧ Hid (clampA limit (x.data.toList.drop i) n = R)) (fun _ y => x.size - (intOf y).toNat)
          case atStart => exact ⟨0, 0, Nat.zero_le _, rfl, rfl, Nat.zero_le _, HR⟩
          case round =>
            obtain ⟨i, n, hi, rfl, rfl, hn, hc⟩ := hrel
            by_cases h1 : i < x.size
            · have h1I : (i : Int) < (x.size : Int) := by omega
              have hdc := drop_cons x i h1
              have hdig := HDG.out i h1
              have HST : Hid (clampA limit (x.data.toList.drop (i + 1)) (min (n * 10 + (x[i].toNat - 48)) limit) = R) := by
                have := hc.out
                rw [hdc] at this
                exact this
              obtain ⟨y, hy⟩ : ∃ y, x[i].toNat = y := ⟨_, rfl⟩
              rw [hy] at hdig HST
              have hw : IntKind.u8.wrap ((y : Int) - 48) = ((y - 48 : Nat) : Int) := by rw [IntKind.wrap_u8]; omega
              have hz : (y : Int) - 48 = ((y - 48 : Nat) : Int) := by omega
              obtain ⟨M, hM⟩ : ∃ M, min (n * 10 + (y - 48)) limit = M := ⟨_, rfl⟩
              rw [hM] at HST
              have hMI : min ((n : Int) * 10 + ((y - 48 : Nat) : Int)) (limit : Int) = (M : Int) := by omega
              have hMl : M ≤ limit := by omega
              clear hdc hM
              go_wp2
              exact ⟨⟨i + 1, M, by omega, by first | rfl | go_num, by go_num, hMl, HST⟩, by simp [intOf]; omega⟩
            · have h1I : ¬ (i : Int) < (x.size : Int) := by omega
              obtain rfl : n = R := by
                have := hc.out
                rw [drop_end x i (by omega)] at this
                exact this
              go_wp2
              go_ret2
              exact ⟨_, true, rfl, by rw [HPE.out]; simp, HB1.out⟩
end Go.Proofs.Qxb6604131aDoor
