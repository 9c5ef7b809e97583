import Derived.Test.Qxb6604131aDoorW2
namespace Go.Proofs.Qxb6604131aDoor
open Go.RowKit
set_option linter.unusedSimpArgs false
set_option linter.unusedVariables false

theorem ixByte : ∀ l : List UInt8, (Lib.indexByte l 46 = -1 ∧ l.takeWhile notP = l ∧ l.dropWhile notP = []) ∨ (∃ k : Nat, Lib.indexByte l 46 = k ∧ k < l.length ∧ l.takeWhile notP = l.take k ∧ l.dropWhile notP = l.drop k)
  | [] => .inl ⟨rfl, rfl, rfl⟩
  | c :: l => by
    by_cases hc : c = 46
    · subst hc
      exact .inr ⟨0, rfl, by simp, by simp [List.takeWhile_cons, point_notP], by simp [List.dropWhile_cons, point_notP]⟩
    · have hb : (c == 46) = false := beq_eq_false_iff_ne.2 hc
      have hn := notP_of hc
      rcases ixByte l with ⟨h1, h2, h3⟩ | ⟨k, h1, h2, h3, h4⟩
      · left
        refine ⟨?_, by simp [List.takeWhile_cons, hn, h2], by simp [List.dropWhile_cons, hn, h3]⟩
        unfold Lib.indexByte
        rw [hb, h1]; rfl
      · right
        refine ⟨k + 1, ?_, by simp; omega, by simp [List.takeWhile_cons, hn, h3], by simp [List.dropWhile_cons, hn, h4]⟩
        unfold Lib.indexByte
        rw [hb, h1, if_neg (by simp), if_neg (by simp)]
        omega
theorem ixAny : ∀ l : List UInt8, (Lib.indexAny l [101, 69] = -1 ∧ l.takeWhile notE = l ∧ l.dropWhile notE = []) ∨ (∃ k : Nat, Lib.indexAny l [101, 69] = k ∧ k < l.length ∧ l.takeWhile notE = l.take k ∧ l.dropWhile notE = l.drop k)
  | [] => .inl ⟨rfl, rfl, rfl⟩
  | c :: l => by
    have hcon : List.contains [101, 69] c = isE c := by unfold isE; cases h1 : c == 101 <;> cases h2 : c == 69 <;> simp [List.contains, List.elem, h1, h2]
    by_cases hc : isE c = true
    · have hn : notE c = false := by unfold notE; rw [hc]; rfl
      refine .inr ⟨0, ?_, by simp, by simp [List.takeWhile_cons, hn], by simp [List.dropWhile_cons, hn]⟩
      unfold Lib.indexAny
      rw [hcon, hc]; rfl
    · have hc' : isE c = false := by simpa using hc
      have hn := notE_of hc'
      rcases ixAny l with ⟨h1, h2, h3⟩ | ⟨k, h1, h2, h3, h4⟩
      · left
        refine ⟨?_, by simp [List.takeWhile_cons, hn, h2], by simp [List.dropWhile_cons, hn, h3]⟩
        unfold Lib.indexAny
        rw [hcon, hc', h1]; rfl
      · right
        refine ⟨k + 1, ?_, by simp; omega, by simp [List.takeWhile_cons, hn, h3], by simp [List.dropWhile_cons, hn, h4]⟩
        unfold Lib.indexAny
        rw [hcon, hc', h1, if_neg (by simp), if_neg (by simp)]
        omega
theorem ext_from (s : ByteArray) (k : Nat) : (s.extract k s.size).data.toList = s.data.toList.drop k := by rw [Lib.extract_data, List.take_of_length_le (by simp)]
theorem ext_to (s : ByteArray) (k : Nat) : (s.extract 0 k).data.toList = s.data.toList.take k := by rw [Lib.extract_data]; simp
theorem cut46_any (s : ByteArray) (w : World) (hs : s.size ≤ 1048576) :
    Calls Tryd.prog 46 #[.string s, .string ⟨#[46]⟩] w fun e w' => ∃ (a b : ByteArray) (ok : Bool), e = .returned (.tuple #[.string a, .string b, .bool ok]) ∧ a.data.toList = s.data.toList.takeWhile notP ∧ b.data.toList = (s.data.toList.dropWhile notP).drop 1 ∧ ∃ n, w' = w.drewN n := by
  have c := Tryd.stringslite_Index_one s 46 w
  rcases ixByte s.data.toList with ⟨h1, h2, h3⟩ | ⟨k, h1, h2, h3, h4⟩
  · rw [h1] at c
    have H2 : Hid (s.data.toList.takeWhile notP = s.data.toList) := h2
    have H3 : Hid (s.data.toList.dropWhile notP = []) := h3
    clear h1 h2 h3
    go_enter Tryd.func46, Tryd.ntmps46
    go_wp2_with fail
    refine c.mono ?_
    rintro e w1 ⟨rfl, hw⟩
    rw [hw]
    clear hw c
    go_wp2_with fail
    go_ret3
    exact ⟨_, _, _, rfl, H2.out.symm, by rw [H3.out]; rfl, 0, rfl⟩
  · rw [h1] at c
    have hk : k < s.size := by simpa using h2
    have H2 : Hid (s.data.toList.takeWhile notP = s.data.toList.take k) := h3
    have H3 : Hid (s.data.toList.dropWhile notP = s.data.toList.drop k) := h4
    have i1 : (0 : Int) ≤ (k : Int) := by omega
    have i2 : (k : Int) ≤ (s.size : Int) := by omega
    have i3 : (k : Int) + 1 ≤ (s.size : Int) := by omega
    have i4 : IntKind.i64.wrap ((k : Int) + 1) = (k : Int) + 1 := IntWalk.i64_in _ (by omega)
    have i5 : ((k : Int) + 1).toNat = k + 1 := by omega
    have i6 : (0 : Int) ≤ (k : Int) + 1 := by omega
    clear h1 h2 h3 h4
    go_enter Tryd.func46, Tryd.ntmps46
    go_wp2_with fail
    refine c.mono ?_
    rintro e w1 ⟨rfl, hw⟩
    rw [hw]
    clear hw c
    go_wp2_with fail
    go_quiet (fail)
    go_wp2_with fail
    go_ret3
    refine ⟨_, _, _, rfl, ?_, ?_, nq, rfl⟩
    · rw [H2.out]; exact ext_to s k
    · rw [H3.out, List.drop_drop]; exact ext_from s (k + 1)
theorem cut_any (s : ByteArray) (w : World) (hs : s.size ≤ 1048576) :
    Calls Tryd.prog 28 #[.string s, .string ⟨#[46]⟩] w fun e w' => ∃ (a b : ByteArray) (ok : Bool), e = .returned (.tuple #[.string a, .string b, .bool ok]) ∧ a.data.toList = s.data.toList.takeWhile notP ∧ b.data.toList = (s.data.toList.dropWhile notP).drop 1 ∧ ∃ n, w' = w.drewN n := by
  go_enter Tryd.func28, Tryd.ntmps28
  go_wp2_with fail
  refine (cut46_any s w hs).mono ?_
  rintro e w1 ⟨a, b, ok, rfl, ha, hb, n, rfl⟩
  have HA : Hid (a.data.toList = s.data.toList.takeWhile notP) := ha
  have HB : Hid (b.data.toList = (s.data.toList.dropWhile notP).drop 1) := hb
  clear ha hb
  go_wp2_with fail
  go_ret3
  exact ⟨a, b, ok, rfl, HA.out, HB.out, n, rfl⟩
end Go.Proofs.Qxb6604131aDoor
