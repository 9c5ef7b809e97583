import Derived.Test.Qxb6604084aDoorW3
namespace Go.Proofs.Qxb6604084aDoor
open Go.RowKit
set_option linter.unusedSimpArgs false
set_option linter.unusedVariables false

theorem lz_any (item list : ByteArray) (w : World) (hs : list.size ≤ 1048576) :
    Calls Tryd.prog 5 #[.string item, .string list] w fun e w' => e = .returned (.bool (decide (item.data.toList ∈ segs list.data.toList))) ∧ Below w.heap.size w w' := by
  obtain ⟨b, hb⟩ : ∃ b, decide (item.data.toList ∈ segs list.data.toList) = b := ⟨_, rfl⟩
  have c : Calls Tryd.prog 10 #[.string item, .string list] w fun e w' => e = .returned (.bool b) ∧ Below w.heap.size w w' := hb ▸ (callsIn_wide (n := 4)).1 (listed_in 4 (Nat.le_refl _) item list hs w)
  rw [hb]
  clear hb
  go_enter Tryd.func5, Tryd.ntmps5
  go_wp2_with fail
  refine c.mono ?_
  rintro e w1 ⟨rfl, hb1⟩
  go_wp2_with fail
  go_ret
  exact ⟨rfl, hb1⟩
theorem zb_any (item list : ByteArray) (w : World) (h1 : item.size ≤ maxLen) (h2 : list.size ≤ maxLen) :
    Calls Tryd.prog 4 #[.string item, .string list] w fun e w' => e = .returned (.bool (decide (item.size + list.size ≤ 1048576))) ∧ w' = w := by
  unfold maxLen at h1 h2
  by_cases a1 : item.size ≤ 1048576
  · by_cases a2 : list.size ≤ 1048576
    · by_cases a3 : item.size + list.size ≤ 1048576
      · have H : Hid (decide (item.size + list.size ≤ 1048576) = true) := decide_eq_true a3
        have a4 : (item.size : Int) + list.size ≤ 1048576 := by omega
        go_enter Tryd.func4, Tryd.ntmps4
        go_wp2
        go_ret
        exact ⟨ret_b H.out.symm, rfl⟩
      · have H : Hid (decide (item.size + list.size ≤ 1048576) = false) := decide_eq_false a3
        have a4 : 1048576 < (item.size : Int) + list.size := by omega
        go_enter Tryd.func4, Tryd.ntmps4
        go_wp2
        go_ret
        exact ⟨ret_b H.out.symm, rfl⟩
    · have H : Hid (decide (item.size + list.size ≤ 1048576) = false) := decide_eq_false (by omega)
      go_enter Tryd.func4, Tryd.ntmps4
      go_wp2
      go_ret
      exact ⟨ret_b H.out.symm, rfl⟩
  · have H : Hid (decide (item.size + list.size ≤ 1048576) = false) := decide_eq_false (by omega)
    go_enter Tryd.func4, Tryd.ntmps4
    go_wp2
    go_ret
    exact ⟨ret_b H.out.symm, rfl⟩

/-- THE LAW, over Booleans. -/
theorem law_bool (x l : List UInt8) : decide (x ∈ segs l) = (!hasC x && ((x == l) || Lib.hasPrefix l (x ++ [44]) || Lib.hasSuffix l ([44] ++ x) || hasIn l (([44] ++ x) ++ [44]))) := by
  rw [Bool.eq_iff_iff, decide_eq_true_iff, segs_iff l.length l (Nat.le_refl _)]
  unfold want hasC
  simp only [Bool.and_eq_true, Bool.not_eq_true', Bool.or_eq_true, beq_iff_eq, hasIn_iff, Lib.hasPrefix, Lib.hasSuffix, List.isPrefixOf_iff_prefix, List.isSuffixOf_iff_suffix]
  rw [← Bool.not_eq_true, List.contains_iff_mem]
  constructor
  · rintro ⟨h1, h | h | h | h⟩
    · exact ⟨h1, .inl (.inl (.inl h))⟩
    · exact ⟨h1, .inl (.inl (.inr h))⟩
    · exact ⟨h1, .inl (.inr h)⟩
    · exact ⟨h1, .inr h⟩
  · rintro ⟨h1, ((h | h) | h) | h⟩
    · exact ⟨h1, .inl h⟩
    · exact ⟨h1, .inr (.inl h)⟩
    · exact ⟨h1, .inr (.inr (.inl h))⟩
    · exact ⟨h1, .inr (.inr (.inr h))⟩

set_option maxHeartbeats 400000 in
theorem law_long (item list : ByteArray) (w : World) (h1 : item.size ≤ maxLen) (h2 : list.size ≤ maxLen) (h : ¬ item.size + list.size ≤ 1048576) :
    Calls Tryd.prog 3 #[.string item, .string list] w fun e w' => e = .returned (.bool true) ∧ Below w.heap.size w w' := by
  have c := zb_any item list w h1 h2
  rw [decide_eq_false h] at c
  go_enter Tryd.func3, Tryd.ntmps3
  go_wp2_with fail
  refine c.mono ?_
  rintro e w1 ⟨rfl, rfl⟩
  go_wp2_with fail
  go_ret
  exact ⟨rfl, Below.refl _ _⟩

set_option maxHeartbeats 1000000 in
theorem law_short (item list : ByteArray) (w : World) (h1 : item.size ≤ maxLen) (h2 : list.size ≤ maxLen) (h : item.size + list.size ≤ 1048576) :
    Calls Tryd.prog 3 #[.string item, .string list] w fun e w' => e = .returned (.bool true) ∧ Below w.heap.size w w' := by
  have c := zb_any item list w h1 h2
  rw [decide_eq_true h] at c
  have z1 : (⟨#[44]⟩ : ByteArray).size = 1 := rfl
  have cl := lz_any item list w (by omega)
  obtain ⟨b0, hb0⟩ : ∃ b, hasC item.data.toList = b := ⟨_, rfl⟩
  obtain ⟨b1, hb1⟩ : ∃ b, (item.toList == list.toList) = b := ⟨_, rfl⟩
  obtain ⟨b2, hb2⟩ : ∃ b, Lib.hasPrefix list.data.toList (item.data.toList ++ [44]) = b := ⟨_, rfl⟩
  obtain ⟨b3, hb3⟩ : ∃ b, Lib.hasSuffix list.data.toList ([44] ++ item.data.toList) = b := ⟨_, rfl⟩
  obtain ⟨b4, hb4⟩ : ∃ b, hasIn list.data.toList (([44] ++ item.data.toList) ++ [44]) = b := ⟨_, rfl⟩
  have e0 : ((item.data.toList == list.data.toList) : Bool) = b1 := by rw [← Lib.toList_data, ← Lib.toList_data]; exact hb1
  rw [law_bool, hb0, e0, hb2, hb3, hb4] at cl
  have c6 : ∀ W, Calls Tryd.prog 6 #[.string item, .int .u8 44] W fun e w' => e = .returned (.bool b0) ∧ w' = W := fun W => hb0 ▸ hb_any item W (by omega)
  have c7 : ∀ W, Calls Tryd.prog 7 #[.string list, .string (item ++ ⟨#[44]⟩)] W fun e w' => e = .returned (.bool b2) ∧ w' = W := fun W => by
    have := hp_any list (item ++ ⟨#[44]⟩) W (by omega) (by rw [ByteArray.size_append, z1]; omega)
    simp only [ByteArray.data_append, Array.toList_append] at this
    rw [hb2] at this; exact this
  have c8 : ∀ W, Calls Tryd.prog 8 #[.string list, .string (⟨#[44]⟩ ++ item)] W fun e w' => e = .returned (.bool b3) ∧ w' = W := fun W => by
    have := hs_any list (⟨#[44]⟩ ++ item) W (by omega) (by rw [ByteArray.size_append, z1]; omega)
    simp only [ByteArray.data_append, Array.toList_append] at this
    rw [hb3] at this; exact this
  have c9 : ∀ W, Calls Tryd.prog 9 #[.string list, .string (⟨#[44]⟩ ++ item ++ ⟨#[44]⟩)] W fun e w' => e = .returned (.bool b4) ∧ w' = W := fun W => by
    have := ct_any list (⟨#[44]⟩ ++ item ++ ⟨#[44]⟩) W (by omega) (by rw [ByteArray.size_append, ByteArray.size_append, z1]; omega)
    simp only [ByteArray.data_append, Array.toList_append] at this
    rw [hb4] at this; exact this
  clear hb0 hb2 hb3 hb4 e0 z1 h1 h2
  have hi : item.size ≤ 1048576 := by omega
  have hl : list.size ≤ 1048576 := by omega
  have hil : (item.size : Int) + list.size ≤ 1048576 := by omega
  cases b0 <;> cases b1 <;> cases b2 <;> cases b3 <;> cases b4
  all_goals
    simp only [Bool.not_true, Bool.not_false, Bool.true_and, Bool.false_and, Bool.or_true, Bool.true_or, Bool.or_false, Bool.false_or, Bool.or_self] at cl
    go_enter Tryd.func3, Tryd.ntmps3
    go_wp2_with fail
    refine c.mono ?_
    rintro e w1 ⟨rfl, rfl⟩
    go_wp2_with fail
    refine cl.mono ?_
    rintro e w1 ⟨rfl, hbel⟩
    go_wp2_with (first | (go_at_call 6; refine (c6 _).mono ?_; rintro e w' ⟨rfl, rfl⟩) | (go_at_call 7; refine (c7 _).mono ?_; rintro e w' ⟨rfl, rfl⟩) | (go_at_call 8; refine (c8 _).mono ?_; rintro e w' ⟨rfl, rfl⟩) | (go_at_call 9; refine (c9 _).mono ?_; rintro e w' ⟨rfl, rfl⟩))
    go_ret
    exact ⟨rfl, hbel⟩
end Go.Proofs.Qxb6604084aDoor
