import Derived.Test.Qxb6600609aDoorProg
import Derived.Test.Qxb6600609aDoorPlain
import Derived.WalkKit
import Derived.WalkSpells
import Derived.WalkLawsBesides
namespace Go.Proofs.Qxb6600609aDoor
open Go.RowKit
set_option linter.unusedSimpArgs false
set_option linter.unusedVariables false

theorem ret_ib {a b : Int} {c d : Bool} (h : b = a) (h' : d = c) : Ending.returned (.tuple #[.int .i64 a, .bool c]) = .returned (.tuple #[.int .i64 b, .bool d]) := by rw [h, h']
/-- How many digits stand from place a on. -/
def nd (s : ByteArray) (a : Nat) : Nat := ((s.data.toList.drop a).takeWhile isD).length
theorem nd_le (s : ByteArray) (a : Nat) (h : a ≤ s.size) : a + nd s a ≤ s.size := by
  have := tw_le isD (s.data.toList.drop a)
  rw [List.length_drop, ← Lib.size_eq] at this
  unfold nd; omega
theorem nd_get (s : ByteArray) (a i : Nat) (h : a ≤ i) (hi : i < s.size) : (s.data.toList.drop a)[i - a]? = some s[i] := by
  rw [List.getElem?_drop, show a + (i - a) = i by omega]; exact get_list s i hi
theorem nd_step (s : ByteArray) (a i : Nat) (h : a ≤ i) (hk : i ≤ a + nd s a) (hi : i < s.size) (hd : isD s[i] = true) : i + 1 ≤ a + nd s a := by
  have := tw_step (p := isD) (k := i - a) (by unfold nd at hk; omega) (nd_get s a i h hi) hd
  unfold nd; omega
theorem nd_stop (s : ByteArray) (a i : Nat) (h : a ≤ i) (hk : i ≤ a + nd s a) (hi : i < s.size) (hd : isD s[i] = false) : a + nd s a = i := by
  have := tw_stop (p := isD) (k := i - a) (by unfold nd at hk; omega) (nd_get s a i h hi) hd
  unfold nd; omega
/-- What the first digits sum to. -/
def satAt (s : ByteArray) (a i : Nat) : Int := satv ((s.data.toList.drop a).take (i - a))
theorem satAt_zero (s : ByteArray) (a : Nat) : satAt s a a = 0 := by simp [satAt, satv]
theorem satAt_succ (s : ByteArray) (a i : Nat) (h : a ≤ i) (hi : i < s.size) : satAt s a (i + 1) = satStep (satAt s a i) s[i] := by
  unfold satAt
  rw [show i + 1 - a = (i - a) + 1 by omega, List.take_add_one, nd_get s a i h hi]
  exact satv_snoc _ _
theorem satAt_bd (s : ByteArray) (a i : Nat) (h : a ≤ i) (hk : i ≤ a + nd s a) : 0 ≤ satAt s a i ∧ satAt s a i ≤ 1152921504606846979 := by
  refine satv_bd _ ?_
  rw [List.all_eq_true]
  intro x hx
  have h1 : (s.data.toList.drop a).take (i - a) = (((s.data.toList.drop a).takeWhile isD)).take (i - a) := by
    rw [← take_tw isD (s.data.toList.drop a), List.take_take, Nat.min_eq_left (by unfold nd at hk; omega)]
  rw [h1] at hx
  exact List.all_eq_true.1 (all_ld (s.data.toList.drop a)) x (List.mem_of_mem_take hx)
/-- The loop's end: all of it is digits, or not. -/
theorem nd_all (s : ByteArray) (a : Nat) (ha : a ≤ s.size) (h : a + nd s a = s.size) : (s.data.toList.drop a).all isD = true ∧ satAt s a s.size = satv (s.data.toList.drop a) := by
  have hl : (s.data.toList.drop a).length = nd s a := by rw [List.length_drop, ← Lib.size_eq]; omega
  have e : (s.data.toList.drop a).takeWhile isD = s.data.toList.drop a := by
    have := take_tw isD (s.data.toList.drop a)
    rw [← this]; unfold nd at hl; exact List.take_of_length_le (by omega)
  refine ⟨?_, ?_⟩
  · have := all_ld (s.data.toList.drop a); unfold ld at this; rw [e] at this; exact this
  · unfold satAt; rw [List.take_of_length_le (by rw [List.length_drop, ← Lib.size_eq]; exact Nat.le_refl _)]
theorem nd_none (s : ByteArray) (a : Nat) (ha : a ≤ s.size) (h : nd s a = 0 ∨ a + nd s a ≠ s.size) : ld (s.data.toList.drop a) = [] ∨ rd (s.data.toList.drop a) ≠ [] := by
  rcases h with h | h
  · exact .inl (List.length_eq_zero_iff.1 h)
  · refine .inr fun e => h ?_
    have := congrArg List.length (rd_nil e)
    rw [List.length_drop, ← Lib.size_eq] at this
    unfold ld at this; unfold nd; omega
theorem nd_fin_none (s : ByteArray) (a : Nat) (neg : Bool) (ha : a ≤ s.size) (h : nd s a = 0 ∨ a + nd s a ≠ s.size) : fin neg (s.data.toList.drop a) = none := fin_none (nd_none s a ha h)
theorem nd_fin_some (s : ByteArray) (a : Nat) (neg : Bool) (ha : a < s.size) (h : a + nd s a = s.size) : fin neg (s.data.toList.drop a) = some (if neg then -(min (satAt s a s.size) 1152921504606846976) else min (satAt s a s.size) 1152921504606846976) := by
  have := nd_all s a (by omega) h
  rw [fin_some (by intro e; have := congrArg List.length e; rw [List.length_drop, ← Lib.size_eq] at this; simp at this; omega) this.1, this.2]
  rfl
/-- The list's head and what is behind it. -/
theorem list_cons (s : ByteArray) (a : Nat) (h : a < s.size) : s.data.toList.drop a = s[a] :: s.data.toList.drop (a + 1) := by
  rw [List.drop_eq_getElem_cons (by rw [← Lib.size_eq]; exact h)]; rfl
theorem u8_ne {c : UInt8} (m : UInt8) (h : ¬ (c.toNat : Int) = m.toNat) : c ≠ m := by rintro rfl; exact h rfl
theorem u8_eq {c : UInt8} (m : UInt8) (h : (c.toNat : Int) = m.toNat) : c = m := UInt8.toNat_inj.1 (by omega)

theorem mexp_plain (s : ByteArray) (h0 : 0 < s.size) (he : (s[0].toNat : Int) = 101 ∨ (s[0].toNat : Int) = 69) (h : s.size ≤ 1 ∨ ∃ h1 : 1 < s.size, ¬ (s[1].toNat : Int) = 43 ∧ ¬ (s[1].toNat : Int) = 45) :
    mexp s.data.toList = fin false (s.data.toList.drop 1) := by
  have e0 := list_cons s 0 h0
  rw [List.drop_zero] at e0
  have hc : s[0] = 101 ∨ s[0] = 69 := he.elim (fun h => .inl (u8_eq 101 h)) (fun h => .inr (u8_eq 69 h))
  rw [e0]
  simp only [mexp, if_pos hc, List.drop_succ_cons, List.drop_zero, Nat.zero_add]
  rcases h with h | ⟨h1, h2, h3⟩
  · have e1 : s.data.toList.drop 1 = [] := List.drop_eq_nil_of_le (by rw [← Lib.size_eq]; omega)
    rw [e1]; rfl
  · rw [list_cons s 1 h1]
    simp only
    rw [if_neg (u8_ne 43 h2), if_neg (u8_ne 45 h3)]
theorem mexp_sign (s : ByteArray) (neg : Bool) (h1 : 1 < s.size) (he : (s[0].toNat : Int) = 101 ∨ (s[0].toNat : Int) = 69) (h : (s[1].toNat : Int) = if neg then 45 else 43) :
    mexp s.data.toList = fin neg (s.data.toList.drop 2) := by
  have e0 := list_cons s 0 (by omega)
  rw [List.drop_zero] at e0
  have hc : s[0] = 101 ∨ s[0] = 69 := he.elim (fun h => .inl (u8_eq 101 h)) (fun h => .inr (u8_eq 69 h))
  rw [e0, list_cons s 1 h1]
  simp only [mexp, if_pos hc, List.drop_succ_cons, List.drop_zero]
  cases neg
  · rw [if_pos (u8_eq 43 (by simpa using h))]
  · have e1 : s[1] = 45 := u8_eq 45 (by simpa using h)
    rw [e1, if_neg (by decide), if_pos rfl]
theorem mexp_no (s : ByteArray) (h : s.size = 0 ∨ ∃ h0 : 0 < s.size, ¬ (s[0].toNat : Int) = 101 ∧ ¬ (s[0].toNat : Int) = 69) : mexp s.data.toList = none := by
  rcases h with h | ⟨h0, h1, h2⟩
  · have : s.data.toList = [] := List.length_eq_zero_iff.1 (by rw [← Lib.size_eq]; exact h)
    rw [this]; rfl
  · have e0 := list_cons s 0 h0
    rw [List.drop_zero] at e0
    rw [e0]
    simp only [mexp]
    rw [if_neg]
    rintro (h | h)
    · exact u8_ne 101 h1 h
    · exact u8_ne 69 h2 h

set_option maxHeartbeats 1000000 in
theorem me_no (s : ByteArray) (w : World) (hs : s.size ≤ 1048576) (h : s.size = 0 ∨ ∃ h0 : 0 < s.size, ¬ (s[0].toNat : Int) = 101 ∧ ¬ (s[0].toNat : Int) = 69) :
    Calls Tryd.prog 12 #[.string s] w fun e w' => e = .returned (.tuple #[.int .i64 0, .bool false]) ∧ w' = w := by
  rcases h with h | ⟨h0, h1, h2⟩
  · go_enter Tryd.func12, Tryd.ntmps12
    go_wp2
    go_ret2
    exact ⟨rfl, rfl⟩
  · have b1 : ((s[0].toNat : Int) != 101) = true := by simpa using h1
    have b2 : ((s[0].toNat : Int) != 69) = true := by simpa using h2
    have b0 : ((s.size : Int) == 0) = false := beq_eq_false_iff_ne.2 (by omega)
    go_enter Tryd.func12, Tryd.ntmps12
    go_wp2
    go_ret2
    exact ⟨rfl, rfl⟩

/-- The way's own numbers, out of the loop's. -/
theorem me_end_no {s : ByteArray} {a : Nat} {neg : Bool} (hw : Hid (mexp s.data.toList = fin neg (s.data.toList.drop a))) (ha : a ≤ s.size) (h : nd s a = 0 ∨ a + nd s a ≠ s.size) : (mexp s.data.toList).getD 0 = 0 ∧ (mexp s.data.toList).isSome = false := by
  rw [hw.out, nd_fin_none s a neg ha h]; exact ⟨rfl, rfl⟩
theorem me_end_yes {s : ByteArray} {a : Nat} {neg : Bool} (hw : Hid (mexp s.data.toList = fin neg (s.data.toList.drop a))) (ha : a < s.size) (h : a + nd s a = s.size) : (mexp s.data.toList).getD 0 = (if neg then -(min (satAt s a s.size) 1152921504606846976) else min (satAt s a s.size) 1152921504606846976) ∧ (mexp s.data.toList).isSome = true := by
  rw [hw.out, nd_fin_some s a neg ha h]; exact ⟨rfl, rfl⟩

set_option maxHeartbeats 1000000 in
theorem me_p0 (s : ByteArray) (w : World) (hs : s.size ≤ 1048576) (h0 : 0 < s.size) (he : (s[0].toNat : Int) = 101 ∨ (s[0].toNat : Int) = 69) (h1 : s.size ≤ 1) :
    Calls Tryd.prog 12 #[.string s] w fun e w' => e = .returned (.tuple #[.int .i64 ((mexp s.data.toList).getD 0), .bool (mexp s.data.toList).isSome]) ∧ w' = w := by
  have b0 : ((s.size : Int) == 0) = false := beq_eq_false_iff_ne.2 (by omega)
  have be : (((s[0].toNat : Int) != 101) = false) ∨ (((s[0].toNat : Int) != 101) = true ∧ ((s[0].toNat : Int) != 69) = false) := by
    rcases he with he | he
    · exact .inl (by rw [he]; rfl)
    · exact .inr ⟨by rw [he]; rfl, by rw [he]; rfl⟩
  have hw : Hid (mexp s.data.toList = fin false (s.data.toList.drop 1)) := mexp_plain s h0 he (.inl h1)
  have hle := nd_le s 1 (by omega)
  clear he
  rcases be with be | ⟨be, be2⟩
  all_goals
    go_enter Tryd.func12, Tryd.ntmps12
    go_wp2
    go_loop [5, 8] (fun i m => ∃ k : Nat, 1 ≤ k ∧ k ≤ 1 + nd s 1 ∧ i = .int .i64 k ∧ m = .int .i64 (satAt s 1 k)) (fun i _ => s.size - (intOf i).toNat)
    case atStart => exact ⟨1, Nat.le_refl _, by omega, rfl, by rw [satAt_zero]⟩
    case round =>
      obtain ⟨k, hk1, hk2, rfl, rfl⟩ := hrel
      have hb := satAt_bd s 1 k hk1 hk2
      by_cases hlt : k < s.size
      · by_cases hd : 48 ≤ (s[k].toNat : Int) ∧ (s[k].toNat : Int) ≤ 57
        · have hk3 := nd_step s 1 k hk1 hk2 hlt (isD_yes hd.1 hd.2)
          have H : Hid (satAt s 1 (k + 1) = satStep (satAt s 1 k) s[k]) := satAt_succ s 1 k hk1 hlt
          obtain ⟨hd1, hd2⟩ := hd
          by_cases hm : satAt s 1 k > 115292150460684697
          · go_wp2
            go_round
            case rel => exact ⟨k + 1, by omega, hk3, by go_num, by rw [H.out, satStep, if_pos hm]⟩
            case measure => simp [intOf]; omega
          · go_wp2
            go_round
            case rel => exact ⟨k + 1, by omega, hk3, by go_num, by rw [H.out, satStep, if_neg hm]⟩
            case measure => simp [intOf]; omega
        · have hend := nd_stop s 1 k hk1 hk2 hlt (isD_no hd)
          have HE := me_end_no hw (by omega) (.inr (by omega))
          have H : Hid ((mexp s.data.toList).getD 0 = 0 ∧ (mexp s.data.toList).isSome = false) := HE
          have bk : ((k : Int) != s.size) = true := by simp; omega
          clear hend HE
          by_cases h48 : 48 ≤ (s[k].toNat : Int)
          · have h57 : ¬ (s[k].toNat : Int) ≤ 57 := by omega
            go_wp2
            all_goals go_ret2
            all_goals exact ⟨ret_ib H.out.1 H.out.2, rfl⟩
          · go_wp2
            all_goals go_ret2
            all_goals exact ⟨ret_ib H.out.1 H.out.2, rfl⟩
      · obtain rfl : k = s.size := by omega
        have hnd : 1 + nd s 1 = s.size := by omega
        by_cases hz : s.size = 1
        · have bz : ((s.size : Int) == 1) = true := by simp; omega
          have H : Hid ((mexp s.data.toList).getD 0 = 0 ∧ (mexp s.data.toList).isSome = false) := me_end_no hw (by omega) (.inl (by omega))
          clear hnd hz
          go_wp2
          all_goals go_ret2
          all_goals exact ⟨ret_ib H.out.1 H.out.2, rfl⟩
        · have bz : ((s.size : Int) == 1) = false := beq_eq_false_iff_ne.2 (by omega)
          have H : Hid ((mexp s.data.toList).getD 0 = (if false then -(min (satAt s 1 s.size) 1152921504606846976) else min (satAt s 1 s.size) 1152921504606846976) ∧ (mexp s.data.toList).isSome = true) := me_end_yes hw (by omega) hnd
          clear hnd hz
          by_cases hm : satAt s 1 s.size > 1152921504606846976
          · go_wp2
            all_goals go_ret2
            all_goals exact ⟨ret_ib (by rw [H.out.1, Int.min_eq_right (by omega)]; rfl) H.out.2, rfl⟩
          · go_wp2
            all_goals go_ret2
            all_goals exact ⟨ret_ib (by rw [H.out.1, Int.min_eq_left (by omega)]; rfl) H.out.2, rfl⟩
set_option maxHeartbeats 1000000 in
theorem me_p1 (s : ByteArray) (w : World) (hs : s.size ≤ 1048576) (h0 : 0 < s.size) (he : (s[0].toNat : Int) = 101 ∨ (s[0].toNat : Int) = 69) (h1 : 1 < s.size) (h2 : ¬ (s[1].toNat : Int) = 43) (h3 : ¬ (s[1].toNat : Int) = 45) :
    Calls Tryd.prog 12 #[.string s] w fun e w' => e = .returned (.tuple #[.int .i64 ((mexp s.data.toList).getD 0), .bool (mexp s.data.toList).isSome]) ∧ w' = w := by
  have b0 : ((s.size : Int) == 0) = false := beq_eq_false_iff_ne.2 (by omega)
  have be : (((s[0].toNat : Int) != 101) = false) ∨ (((s[0].toNat : Int) != 101) = true ∧ ((s[0].toNat : Int) != 69) = false) := by
    rcases he with he | he
    · exact .inl (by rw [he]; rfl)
    · exact .inr ⟨by rw [he]; rfl, by rw [he]; rfl⟩
  have hw : Hid (mexp s.data.toList = fin false (s.data.toList.drop 1)) := mexp_plain s h0 he (.inr ⟨h1, h2, h3⟩)
  have c1 : ((s[1].toNat : Int) == 43) = false := beq_eq_false_iff_ne.2 h2
  have c2 : ((s[1].toNat : Int) == 45) = false := beq_eq_false_iff_ne.2 h3
  clear h2 h3
  have hle := nd_le s 1 (by omega)
  clear he
  rcases be with be | ⟨be, be2⟩
  all_goals
    go_enter Tryd.func12, Tryd.ntmps12
    go_wp2
    go_loop [5, 8] (fun i m => ∃ k : Nat, 1 ≤ k ∧ k ≤ 1 + nd s 1 ∧ i = .int .i64 k ∧ m = .int .i64 (satAt s 1 k)) (fun i _ => s.size - (intOf i).toNat)
    case atStart => exact ⟨1, Nat.le_refl _, by omega, rfl, by rw [satAt_zero]⟩
    case round =>
      obtain ⟨k, hk1, hk2, rfl, rfl⟩ := hrel
      have hb := satAt_bd s 1 k hk1 hk2
      by_cases hlt : k < s.size
      · by_cases hd : 48 ≤ (s[k].toNat : Int) ∧ (s[k].toNat : Int) ≤ 57
        · have hk3 := nd_step s 1 k hk1 hk2 hlt (isD_yes hd.1 hd.2)
          have H : Hid (satAt s 1 (k + 1) = satStep (satAt s 1 k) s[k]) := satAt_succ s 1 k hk1 hlt
          obtain ⟨hd1, hd2⟩ := hd
          by_cases hm : satAt s 1 k > 115292150460684697
          · go_wp2
            go_round
            case rel => exact ⟨k + 1, by omega, hk3, by go_num, by rw [H.out, satStep, if_pos hm]⟩
            case measure => simp [intOf]; omega
          · go_wp2
            go_round
            case rel => exact ⟨k + 1, by omega, hk3, by go_num, by rw [H.out, satStep, if_neg hm]⟩
            case measure => simp [intOf]; omega
        · have hend := nd_stop s 1 k hk1 hk2 hlt (isD_no hd)
          have HE := me_end_no hw (by omega) (.inr (by omega))
          have H : Hid ((mexp s.data.toList).getD 0 = 0 ∧ (mexp s.data.toList).isSome = false) := HE
          have bk : ((k : Int) != s.size) = true := by simp; omega
          clear hend HE
          by_cases h48 : 48 ≤ (s[k].toNat : Int)
          · have h57 : ¬ (s[k].toNat : Int) ≤ 57 := by omega
            go_wp2
            all_goals go_ret2
            all_goals exact ⟨ret_ib H.out.1 H.out.2, rfl⟩
          · go_wp2
            all_goals go_ret2
            all_goals exact ⟨ret_ib H.out.1 H.out.2, rfl⟩
      · obtain rfl : k = s.size := by omega
        have hnd : 1 + nd s 1 = s.size := by omega
        by_cases hz : s.size = 1
        · have bz : ((s.size : Int) == 1) = true := by simp; omega
          have H : Hid ((mexp s.data.toList).getD 0 = 0 ∧ (mexp s.data.toList).isSome = false) := me_end_no hw (by omega) (.inl (by omega))
          clear hnd hz
          go_wp2
          all_goals go_ret2
          all_goals exact ⟨ret_ib H.out.1 H.out.2, rfl⟩
        · have bz : ((s.size : Int) == 1) = false := beq_eq_false_iff_ne.2 (by omega)
          have H : Hid ((mexp s.data.toList).getD 0 = (if false then -(min (satAt s 1 s.size) 1152921504606846976) else min (satAt s 1 s.size) 1152921504606846976) ∧ (mexp s.data.toList).isSome = true) := me_end_yes hw (by omega) hnd
          clear hnd hz
          by_cases hm : satAt s 1 s.size > 1152921504606846976
          · go_wp2
            all_goals go_ret2
            all_goals exact ⟨ret_ib (by rw [H.out.1, Int.min_eq_right (by omega)]; rfl) H.out.2, rfl⟩
          · go_wp2
            all_goals go_ret2
            all_goals exact ⟨ret_ib (by rw [H.out.1, Int.min_eq_left (by omega)]; rfl) H.out.2, rfl⟩
set_option maxHeartbeats 1000000 in
theorem me_plus (s : ByteArray) (w : World) (hs : s.size ≤ 1048576) (h0 : 0 < s.size) (he : (s[0].toNat : Int) = 101 ∨ (s[0].toNat : Int) = 69) (h1 : 1 < s.size) (h2 : (s[1].toNat : Int) = 43) :
    Calls Tryd.prog 12 #[.string s] w fun e w' => e = .returned (.tuple #[.int .i64 ((mexp s.data.toList).getD 0), .bool (mexp s.data.toList).isSome]) ∧ w' = w := by
  have b0 : ((s.size : Int) == 0) = false := beq_eq_false_iff_ne.2 (by omega)
  have be : (((s[0].toNat : Int) != 101) = false) ∨ (((s[0].toNat : Int) != 101) = true ∧ ((s[0].toNat : Int) != 69) = false) := by
    rcases he with he | he
    · exact .inl (by rw [he]; rfl)
    · exact .inr ⟨by rw [he]; rfl, by rw [he]; rfl⟩
  have hw : Hid (mexp s.data.toList = fin false (s.data.toList.drop 2)) := mexp_sign s false h1 he h2
  have c1 : ((s[1].toNat : Int) == 43) = true := by rw [h2]; rfl
  have c2 : ((s[1].toNat : Int) == 45) = false := by rw [h2]; rfl
  clear h2
  have hle := nd_le s 2 (by omega)
  clear he
  rcases be with be | ⟨be, be2⟩
  all_goals
    go_enter Tryd.func12, Tryd.ntmps12
    go_wp2
    go_loop [5, 8] (fun i m => ∃ k : Nat, 2 ≤ k ∧ k ≤ 2 + nd s 2 ∧ i = .int .i64 k ∧ m = .int .i64 (satAt s 2 k)) (fun i _ => s.size - (intOf i).toNat)
    case atStart => exact ⟨2, Nat.le_refl _, by omega, rfl, by rw [satAt_zero]⟩
    case round =>
      obtain ⟨k, hk1, hk2, rfl, rfl⟩ := hrel
      have hb := satAt_bd s 2 k hk1 hk2
      by_cases hlt : k < s.size
      · by_cases hd : 48 ≤ (s[k].toNat : Int) ∧ (s[k].toNat : Int) ≤ 57
        · have hk3 := nd_step s 2 k hk1 hk2 hlt (isD_yes hd.1 hd.2)
          have H : Hid (satAt s 2 (k + 1) = satStep (satAt s 2 k) s[k]) := satAt_succ s 2 k hk1 hlt
          obtain ⟨hd1, hd2⟩ := hd
          by_cases hm : satAt s 2 k > 115292150460684697
          · go_wp2
            go_round
            case rel => exact ⟨k + 1, by omega, hk3, by go_num, by rw [H.out, satStep, if_pos hm]⟩
            case measure => simp [intOf]; omega
          · go_wp2
            go_round
            case rel => exact ⟨k + 1, by omega, hk3, by go_num, by rw [H.out, satStep, if_neg hm]⟩
            case measure => simp [intOf]; omega
        · have hend := nd_stop s 2 k hk1 hk2 hlt (isD_no hd)
          have HE := me_end_no hw (by omega) (.inr (by omega))
          have H : Hid ((mexp s.data.toList).getD 0 = 0 ∧ (mexp s.data.toList).isSome = false) := HE
          have bk : ((k : Int) != s.size) = true := by simp; omega
          clear hend HE
          by_cases h48 : 48 ≤ (s[k].toNat : Int)
          · have h57 : ¬ (s[k].toNat : Int) ≤ 57 := by omega
            go_wp2
            all_goals go_ret2
            all_goals exact ⟨ret_ib H.out.1 H.out.2, rfl⟩
          · go_wp2
            all_goals go_ret2
            all_goals exact ⟨ret_ib H.out.1 H.out.2, rfl⟩
      · obtain rfl : k = s.size := by omega
        have hnd : 2 + nd s 2 = s.size := by omega
        by_cases hz : s.size = 2
        · have bz : ((s.size : Int) == 2) = true := by simp; omega
          have H : Hid ((mexp s.data.toList).getD 0 = 0 ∧ (mexp s.data.toList).isSome = false) := me_end_no hw (by omega) (.inl (by omega))
          clear hnd hz
          go_wp2
          all_goals go_ret2
          all_goals exact ⟨ret_ib H.out.1 H.out.2, rfl⟩
        · have bz : ((s.size : Int) == 2) = false := beq_eq_false_iff_ne.2 (by omega)
          have H : Hid ((mexp s.data.toList).getD 0 = (if false then -(min (satAt s 2 s.size) 1152921504606846976) else min (satAt s 2 s.size) 1152921504606846976) ∧ (mexp s.data.toList).isSome = true) := me_end_yes hw (by omega) hnd
          clear hnd hz
          by_cases hm : satAt s 2 s.size > 1152921504606846976
          · go_wp2
            all_goals go_ret2
            all_goals exact ⟨ret_ib (by rw [H.out.1, Int.min_eq_right (by omega)]; rfl) H.out.2, rfl⟩
          · go_wp2
            all_goals go_ret2
            all_goals exact ⟨ret_ib (by rw [H.out.1, Int.min_eq_left (by omega)]; rfl) H.out.2, rfl⟩
set_option maxHeartbeats 1000000 in
theorem me_minus (s : ByteArray) (w : World) (hs : s.size ≤ 1048576) (h0 : 0 < s.size) (he : (s[0].toNat : Int) = 101 ∨ (s[0].toNat : Int) = 69) (h1 : 1 < s.size) (h2 : (s[1].toNat : Int) = 45) :
    Calls Tryd.prog 12 #[.string s] w fun e w' => e = .returned (.tuple #[.int .i64 ((mexp s.data.toList).getD 0), .bool (mexp s.data.toList).isSome]) ∧ w' = w := by
  have b0 : ((s.size : Int) == 0) = false := beq_eq_false_iff_ne.2 (by omega)
  have be : (((s[0].toNat : Int) != 101) = false) ∨ (((s[0].toNat : Int) != 101) = true ∧ ((s[0].toNat : Int) != 69) = false) := by
    rcases he with he | he
    · exact .inl (by rw [he]; rfl)
    · exact .inr ⟨by rw [he]; rfl, by rw [he]; rfl⟩
  have hw : Hid (mexp s.data.toList = fin true (s.data.toList.drop 2)) := mexp_sign s true h1 he h2
  have c1 : ((s[1].toNat : Int) == 43) = false := by rw [h2]; rfl
  have c2 : ((s[1].toNat : Int) == 45) = true := by rw [h2]; rfl
  clear h2
  have hle := nd_le s 2 (by omega)
  clear he
  rcases be with be | ⟨be, be2⟩
  all_goals
    go_enter Tryd.func12, Tryd.ntmps12
    go_wp2
    go_loop [5, 8] (fun i m => ∃ k : Nat, 2 ≤ k ∧ k ≤ 2 + nd s 2 ∧ i = .int .i64 k ∧ m = .int .i64 (satAt s 2 k)) (fun i _ => s.size - (intOf i).toNat)
    case atStart => exact ⟨2, Nat.le_refl _, by omega, rfl, by rw [satAt_zero]⟩
    case round =>
      obtain ⟨k, hk1, hk2, rfl, rfl⟩ := hrel
      have hb := satAt_bd s 2 k hk1 hk2
      by_cases hlt : k < s.size
      · by_cases hd : 48 ≤ (s[k].toNat : Int) ∧ (s[k].toNat : Int) ≤ 57
        · have hk3 := nd_step s 2 k hk1 hk2 hlt (isD_yes hd.1 hd.2)
          have H : Hid (satAt s 2 (k + 1) = satStep (satAt s 2 k) s[k]) := satAt_succ s 2 k hk1 hlt
          obtain ⟨hd1, hd2⟩ := hd
          by_cases hm : satAt s 2 k > 115292150460684697
          · go_wp2
            go_round
            case rel => exact ⟨k + 1, by omega, hk3, by go_num, by rw [H.out, satStep, if_pos hm]⟩
            case measure => simp [intOf]; omega
          · go_wp2
            go_round
            case rel => exact ⟨k + 1, by omega, hk3, by go_num, by rw [H.out, satStep, if_neg hm]⟩
            case measure => simp [intOf]; omega
        · have hend := nd_stop s 2 k hk1 hk2 hlt (isD_no hd)
          have HE := me_end_no hw (by omega) (.inr (by omega))
          have H : Hid ((mexp s.data.toList).getD 0 = 0 ∧ (mexp s.data.toList).isSome = false) := HE
          have bk : ((k : Int) != s.size) = true := by simp; omega
          clear hend HE
          by_cases h48 : 48 ≤ (s[k].toNat : Int)
          · have h57 : ¬ (s[k].toNat : Int) ≤ 57 := by omega
            go_wp2
            all_goals go_ret2
            all_goals exact ⟨ret_ib H.out.1 H.out.2, rfl⟩
          · go_wp2
            all_goals go_ret2
            all_goals exact ⟨ret_ib H.out.1 H.out.2, rfl⟩
      · obtain rfl : k = s.size := by omega
        have hnd : 2 + nd s 2 = s.size := by omega
        by_cases hz : s.size = 2
        · have bz : ((s.size : Int) == 2) = true := by simp; omega
          have H : Hid ((mexp s.data.toList).getD 0 = 0 ∧ (mexp s.data.toList).isSome = false) := me_end_no hw (by omega) (.inl (by omega))
          clear hnd hz
          go_wp2
          all_goals go_ret2
          all_goals exact ⟨ret_ib H.out.1 H.out.2, rfl⟩
        · have bz : ((s.size : Int) == 2) = false := beq_eq_false_iff_ne.2 (by omega)
          have H : Hid ((mexp s.data.toList).getD 0 = (if true then -(min (satAt s 2 s.size) 1152921504606846976) else min (satAt s 2 s.size) 1152921504606846976) ∧ (mexp s.data.toList).isSome = true) := me_end_yes hw (by omega) hnd
          clear hnd hz
          by_cases hm : satAt s 2 s.size > 1152921504606846976
          · go_wp2
            all_goals go_ret2
            all_goals exact ⟨ret_ib (by rw [H.out.1, Int.min_eq_right (by omega)]; rfl) H.out.2, rfl⟩
          · go_wp2
            all_goals go_ret2
            all_goals exact ⟨ret_ib (by rw [H.out.1, Int.min_eq_left (by omega)]; rfl) H.out.2, rfl⟩
/-- zzqModelExponent, whatever the text. -/
theorem me_any (s : ByteArray) (w : World) (hs : s.size ≤ 1048576) :
    Calls Tryd.prog 12 #[.string s] w fun e w' => e = .returned (.tuple #[.int .i64 ((mexp s.data.toList).getD 0), .bool (mexp s.data.toList).isSome]) ∧ w' = w := by
  by_cases h0 : 0 < s.size
  · by_cases he : (s[0].toNat : Int) = 101 ∨ (s[0].toNat : Int) = 69
    · by_cases h1 : 1 < s.size
      · by_cases h2 : (s[1].toNat : Int) = 43
        · exact me_plus s w hs h0 he h1 h2
        · by_cases h3 : (s[1].toNat : Int) = 45
          · exact me_minus s w hs h0 he h1 h3
          · exact me_p1 s w hs h0 he h1 h2 h3
      · exact me_p0 s w hs h0 he (by omega)
    · have hn : s.size = 0 ∨ ∃ h0 : 0 < s.size, ¬ (s[0].toNat : Int) = 101 ∧ ¬ (s[0].toNat : Int) = 69 := .inr ⟨h0, by omega, by omega⟩
      rw [mexp_no s hn]; exact me_no s w hs hn
  · have hn : s.size = 0 ∨ ∃ h0 : 0 < s.size, ¬ (s[0].toNat : Int) = 101 ∧ ¬ (s[0].toNat : Int) = 69 := .inl (by omega)
    rw [mexp_no s hn]; exact me_no s w hs hn
end Go.Proofs.Qxb6600609aDoor
