import Derived.Test.Qxb6604084aDoorW2
import Derived.WalkLawsBesides
import Derived.Handy
namespace Go.Proofs.Qxb6604084aDoor
open Go.RowKit
set_option linter.unusedSimpArgs false
set_option linter.unusedVariables false

theorem get_list (s : ByteArray) (k : Nat) (h : k < s.size) : s.data.toList[k]? = some s[k] := by
  rw [List.getElem?_eq_getElem (by simpa using h)]; rfl
theorem u8_ne {c : UInt8} (m : UInt8) (h : ¬ (c.toNat : Int) = m.toNat) : c ≠ m := by rintro rfl; exact h rfl
theorem u8_eq {c : UInt8} (m : UInt8) (h : (c.toNat : Int) = m.toNat) : c = m := UInt8.toNat_inj.1 (by omega)
theorem ret_b {a b : Bool} (h : a = b) : Ending.returned (.bool a) = .returned (.bool b) := by rw [h]
/-- Is there a comma. -/
def hasC (l : List UInt8) : Bool := l.contains 44
/-- No comma among the first k bytes. -/
def NoC (l : List UInt8) (k : Nat) : Prop := ∀ (j : Nat) (b : UInt8), j < k → l[j]? = some b → b ≠ 44
theorem noC_all {s : ByteArray} (h : NoC s.data.toList s.size) : hasC s.data.toList = false := by
  unfold hasC
  rw [← Bool.not_eq_true, List.contains_iff_mem]
  intro hm
  obtain ⟨j, hj, e⟩ := List.mem_iff_getElem.1 hm
  exact h j 44 (by rw [Lib.size_eq]; exact hj) (by rw [List.getElem?_eq_getElem hj, e]) rfl

set_option maxHeartbeats 400000 in
theorem hb_any (s : ByteArray) (w : World) (hs : s.size ≤ 1048576) :
    Calls Tryd.prog 6 #[.string s, .int .u8 44] w fun e w' => e = .returned (.bool (hasC s.data.toList)) ∧ w' = w := by
  go_enter Tryd.func6, Tryd.ntmps6
  go_wp2
  go_loop [5] (fun i => ∃ k : Nat, k ≤ s.size ∧ NoC s.data.toList k ∧ i = .int .i64 k) (fun i => s.size - (intOf i).toNat)
  case atStart => exact ⟨0, Nat.zero_le _, fun j b hj _ => absurd hj (by omega), rfl⟩
  case round =>
    obtain ⟨k, hk, hno, rfl⟩ := hrel
    by_cases hlt : k < s.size
    · have hg := get_list s k hlt
      by_cases h44 : (s[k].toNat : Int) = 44
      · have k1 : ((s[k].toNat : Int) == 44) = true := by rw [h44]; rfl
        have H : Hid (hasC s.data.toList = true) := by
          show hasC s.data.toList = true
          unfold hasC
          rw [List.contains_iff_mem]
          rw [u8_eq 44 h44] at hg
          exact List.mem_of_getElem? hg
        clear hg h44
        go_wp2
        go_ret
        exact ⟨ret_b H.out.symm, rfl⟩
      · have k1 : ((s[k].toNat : Int) == 44) = false := beq_eq_false_iff_ne.2 h44
        have hno2 : NoC s.data.toList (k + 1) := fun j b hj e => by
          by_cases hjk : j = k
          · subst hjk; rw [hg] at e; rw [← Option.some.inj e]; exact u8_ne 44 h44
          · exact hno j b (by omega) e
        clear hg h44
        go_wp2
        go_round
        case rel => exact ⟨k + 1, by omega, hno2, by go_num⟩
        case measure => simp [intOf]; omega
    · obtain rfl : k = s.size := by omega
      have H : Hid (hasC s.data.toList = false) := noC_all hno
      go_wp2
      go_ret
      exact ⟨ret_b H.out.symm, rfl⟩

set_option maxHeartbeats 400000 in
theorem hp_any (s p : ByteArray) (w : World) (hs : s.size ≤ 1048576) (hp : p.size ≤ 2097152) :
    Calls Tryd.prog 7 #[.string s, .string p] w fun e w' => e = .returned (.bool (Lib.hasPrefix s.data.toList p.data.toList)) ∧ w' = w := by
  have H : Hid ((decide (p.size ≤ s.size) && ((s.extract 0 p.size).toList == p.toList)) = Lib.hasPrefix s.data.toList p.data.toList) := Lib.hasPrefix_raw s p
  by_cases h : p.size ≤ s.size
  · go_enter Tryd.func7, Tryd.ntmps7
    go_wp2
    go_ret
    exact ⟨ret_b (by rw [← H.out, decide_eq_true h]; rfl), rfl⟩
  · go_enter Tryd.func7, Tryd.ntmps7
    go_wp2
    go_ret
    exact ⟨ret_b (by rw [← H.out, decide_eq_false h]; rfl), rfl⟩
set_option maxHeartbeats 400000 in
theorem hs_any (s p : ByteArray) (w : World) (hs : s.size ≤ 1048576) (hp : p.size ≤ 2097152) :
    Calls Tryd.prog 8 #[.string s, .string p] w fun e w' => e = .returned (.bool (Lib.hasSuffix s.data.toList p.data.toList)) ∧ w' = w := by
  have H : Hid ((decide (p.size ≤ s.size) && ((s.extract (s.size - p.size) s.size).toList == p.toList)) = Lib.hasSuffix s.data.toList p.data.toList) := Lib.hasSuffix_raw s p
  by_cases h : p.size ≤ s.size
  · go_enter Tryd.func8, Tryd.ntmps8
    go_wp2
    go_ret
    exact ⟨ret_b (by rw [← H.out, decide_eq_true h]; rfl), rfl⟩
  · go_enter Tryd.func8, Tryd.ntmps8
    go_wp2
    go_ret
    exact ⟨ret_b (by rw [← H.out, decide_eq_false h]; rfl), rfl⟩
/-- Does p stand in l at i. -/
def at_ (l p : List UInt8) (i : Nat) : Bool := (l.drop i).take p.length == p
def hasIn (l p : List UInt8) : Bool := (List.range (l.length + 1)).any (at_ l p)
theorem hasIn_iff (l p : List UInt8) : hasIn l p = true ↔ p <:+: l := by
  unfold hasIn
  rw [List.any_eq_true]
  constructor
  · rintro ⟨i, _, h⟩
    have e : (l.drop i).take p.length = p := by simpa [at_] using h
    refine ⟨l.take i, (l.drop i).drop p.length, ?_⟩
    conv => rhs; rw [← List.take_append_drop i l, ← List.take_append_drop p.length (l.drop i), e]
    simp
  · rintro ⟨a, b, rfl⟩
    refine ⟨a.length, List.mem_range.2 (by simp; omega), ?_⟩
    simp [at_]
def NotIn (l p : List UInt8) (k : Nat) : Prop := ∀ j, j < k → at_ l p j = false
theorem at_of (s p : ByteArray) (k : Nat) (h : k + p.size ≤ s.size) : ((s.extract k (k + p.size)).toList == p.toList) = at_ s.data.toList p.data.toList k := by
  unfold at_
  rw [Lib.extract_toList, Lib.toList_data, show k + p.size - k = p.size by omega, Lib.size_eq]
theorem hasIn_no {s p : ByteArray} {k : Nat} (h : NotIn s.data.toList p.data.toList k) (hk : ¬ k + p.size ≤ s.size) : hasIn s.data.toList p.data.toList = false := by
  rw [← Bool.not_eq_true, hasIn_iff]
  rintro ⟨a, b, e⟩
  have hl := congrArg List.length e
  simp only [List.length_append] at hl
  rw [← Lib.size_eq, ← Lib.size_eq] at hl
  have := h a.length (by omega)
  rw [← e] at this
  simp [at_] at this
theorem hasIn_yes {s p : ByteArray} {k : Nat} (hk : k + p.size ≤ s.size) (h : at_ s.data.toList p.data.toList k = true) : hasIn s.data.toList p.data.toList = true := by
  unfold hasIn; rw [List.any_eq_true]
  exact ⟨k, List.mem_range.2 (by rw [← Lib.size_eq]; omega), h⟩

set_option maxHeartbeats 400000 in
theorem ct_any (s p : ByteArray) (w : World) (hs : s.size ≤ 1048576) (hp : p.size ≤ 2097152) :
    Calls Tryd.prog 9 #[.string s, .string p] w fun e w' => e = .returned (.bool (hasIn s.data.toList p.data.toList)) ∧ w' = w := by
  go_enter Tryd.func9, Tryd.ntmps9
  go_wp2
  go_loop [5] (fun i => ∃ k : Nat, k ≤ s.size + 1 ∧ NotIn s.data.toList p.data.toList k ∧ i = .int .i64 k) (fun i => s.size + 1 - (intOf i).toNat)
  case atStart => exact ⟨0, Nat.zero_le _, fun j hj => absurd hj (by omega), rfl⟩
  case round =>
    obtain ⟨k, hk, hno, rfl⟩ := hrel
    by_cases hlt : k + p.size ≤ s.size
    · have ha := at_of s p k hlt
      cases hx : at_ s.data.toList p.data.toList k with
      | true =>
        have k1 : ((s.extract k (k + p.size)).toList == p.toList) = true := ha.trans hx
        have H : Hid (hasIn s.data.toList p.data.toList = true) := hasIn_yes hlt hx
        clear ha hx
        go_wp2
        go_ret
        exact ⟨ret_b H.out.symm, rfl⟩
      | false =>
        have k1 : ((s.extract k (k + p.size)).toList == p.toList) = false := ha.trans hx
        have hno2 : NotIn s.data.toList p.data.toList (k + 1) := fun j hj => by
          by_cases hjk : j = k
          · subst hjk; exact hx
          · exact hno j (by omega)
        clear ha hx
        go_wp2
        go_round
        case rel => exact ⟨k + 1, by omega, hno2, by go_num⟩
        case measure => simp [intOf]; omega
    · have H : Hid (hasIn s.data.toList p.data.toList = false) := hasIn_no hno hlt
      go_wp2
      go_ret
      exact ⟨ret_b H.out.symm, rfl⟩
end Go.Proofs.Qxb6604084aDoor
