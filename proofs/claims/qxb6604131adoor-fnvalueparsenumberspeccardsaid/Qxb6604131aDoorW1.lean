import Derived.Test.Qxb6604131aDoorShelf
import Derived.Test.Qxb6604131aDoorLaw2
import Derived.WalkKit
import Derived.WalkSpells
import Derived.WalkLawsBesides
import Derived.Handy
import Derived.ScopeJumps
import Derived.Deep.DeepCutAuto
import Derived.Deep.CutBlock
import Derived.BigRegion
import Derived.BigQuiet
import Derived.Deep.QuietTactic
import Derived.StillTailTactics
import Derived.OwnWalk
import Derived.Laws.IdiomStrings
import Derived.Maps.AppendAt
import Derived.Deep.AppendLies
namespace Go.Proofs.Qxb6604131aDoor
open Go.RowKit
set_option linter.unusedSimpArgs false
set_option linter.unusedVariables false

theorem toList_nil {s : ByteArray} : s.toList.isEmpty = true ↔ s.data.toList = [] := by rw [Lib.toList_data, List.isEmpty_iff]
theorem toList_not {s : ByteArray} (h : s.data.toList ≠ []) : s.toList.isEmpty = false := by
  cases e : s.toList.isEmpty with
  | false => rfl
  | true => exact absurd (toList_nil.1 e) h
theorem ba_ext {a b : ByteArray} (h : a.data.toList = b.data.toList) : a = b := by
  obtain ⟨⟨l⟩⟩ := a; obtain ⟨⟨l2⟩⟩ := b
  simp at h; rw [h]
theorem get_list (s : ByteArray) (k : Nat) (h : k < s.size) : s.data.toList[k]? = some s[k] := by
  rw [List.getElem?_eq_getElem (by simpa using h)]; rfl
theorem drop_cons (s : ByteArray) (k : Nat) (h : k < s.size) : s.data.toList.drop k = s[k] :: s.data.toList.drop (k + 1) := by
  rw [List.drop_eq_getElem_cons (by simpa using h)]; rfl
theorem drop_end (s : ByteArray) (k : Nat) (h : s.size ≤ k) : s.data.toList.drop k = [] := List.drop_eq_nil_of_le (by simpa using h)
theorem isD_num (x : UInt8) : isD x = true ↔ 48 ≤ x.toNat ∧ x.toNat ≤ 57 := by
  unfold isD; simp only [Bool.and_eq_true, decide_eq_true_eq]
theorem isZ_num (x : UInt8) : isZ x = true ↔ x.toNat = 48 := by
  unfold isZ; rw [beq_iff_eq]
  constructor
  · intro h; rw [h]; rfl
  · intro h; exact UInt8.toNat_inj.1 h
theorem isD_not {x : UInt8} (h : ¬ (48 ≤ x.toNat ∧ x.toNat ≤ 57)) : isD x = false := by
  cases e : isD x with
  | false => rfl
  | true => exact absurd ((isD_num x).1 e) h
theorem isZ_not {x : UInt8} (h : ¬ x.toNat = 48) : isZ x = false := by
  cases e : isZ x with
  | false => rfl
  | true => exact absurd ((isZ_num x).1 e) h

theorem isdig_any (c : Nat) (hc : c < 256) (b : Bool) (hb : b = true ↔ 48 ≤ c ∧ c ≤ 57) (w : World) :
    Calls Tryd.prog 22 #[.int .u8 c] w fun e w' => e = .returned (.bool b) ∧ w' = w := by
  by_cases h1 : (48 : Int) ≤ (c : Int)
  · by_cases h2 : (c : Int) ≤ 57
    · obtain rfl : b = true := hb.2 (by omega)
      clear hb
      go_enter Tryd.func22, Tryd.ntmps22
      go_wp2
      go_ret
      exact ⟨rfl, rfl⟩
    · obtain rfl : b = false := by
        cases b with
        | false => rfl
        | true => exact absurd (hb.1 rfl) (by omega)
      clear hb
      go_enter Tryd.func22, Tryd.ntmps22
      go_wp2
      go_ret
      exact ⟨rfl, rfl⟩
  · obtain rfl : b = false := by
      cases b with
      | false => rfl
      | true => exact absurd (hb.1 rfl) (by omega)
    clear hb
    go_enter Tryd.func22, Tryd.ntmps22
    go_wp2
    go_ret
    exact ⟨rfl, rfl⟩

theorem strip_any (s : ByteArray) (w : World) (hs : s.size ≤ 1048576) :
    Calls Tryd.prog 14 #[.string s] w fun e w' => ∃ r : ByteArray, e = .returned (.string r) ∧ r.data.toList = s.data.toList.dropWhile isZ ∧ w' = w := by
  go_enter Tryd.func14, Tryd.ntmps14
  go_wp2
  go_loop [3] (fun x => ∃ i : Nat, i ≤ s.size ∧ x = .int .i64 i ∧ Hid ((s.data.toList.drop i).dropWhile isZ = s.data.toList.dropWhile isZ)) (fun x => s.size - (intOf x).toNat)
  case atStart => exact ⟨0, Nat.zero_le _, rfl, rfl⟩
  case round =>
    obtain ⟨i, hi, rfl, hd⟩ := hrel
    by_cases h1 : i < s.size
    · have h1I : (i : Int) < (s.size : Int) := by omega
      have hdc := drop_cons s i h1
      obtain ⟨y, hy⟩ : ∃ y, s[i].toNat = y := ⟨_, rfl⟩
      by_cases h2 : y = 48
      · have hz : isZ s[i] = true := (isZ_num _).2 (hy.trans h2)
        have HN : Hid ((s.data.toList.drop (i + 1)).dropWhile isZ = s.data.toList.dropWhile isZ) := by
          have := hd.out
          rw [hdc, List.dropWhile_cons, hz] at this
          exact this
        have k : ((y : Int) == 48) = true := by rw [h2]; rfl
        clear hdc hz h2
        go_wp2
        exact ⟨⟨i + 1, by omega, by go_num, HN⟩, by simp [intOf]; omega⟩
      · have hz : isZ s[i] = false := isZ_not (by rw [hy]; exact h2)
        have HN : Hid (s.data.toList.drop i = s.data.toList.dropWhile isZ) := by
          have := hd.out
          rw [hdc, List.dropWhile_cons, hz] at this
          rw [hdc]; exact this
        have k : ((y : Int) == 48) = false := beq_eq_false_iff_ne.2 (by omega)
        clear hdc hz h2
        go_wp2
        go_ret
        exact ⟨_, rfl, by rw [Lib.extract_data, List.take_of_length_le (by simp)]; exact HN.out, rfl⟩
    · have h1I : ¬ (i : Int) < (s.size : Int) := by omega
      have HN : Hid (s.data.toList.drop i = s.data.toList.dropWhile isZ) := by
        have := hd.out
        rw [drop_end s i (by omega)] at this
        rw [drop_end s i (by omega)]; exact this
      go_wp2
      go_ret
      exact ⟨_, rfl, by rw [Lib.extract_data, List.take_of_length_le (by simp)]; exact HN.out, rfl⟩

theorem rc_any (s : ByteArray) (limit : Nat) (w : World) (hs : s.size ≤ 1048576) (hl : limit ≤ 1048576) (hd : s.data.toList.all isD = true) :
    Calls Tryd.prog 15 #[.string s, .int .i64 limit] w fun e w' => e = .returned (.int .i64 (RC limit s.data.toList)) ∧ w' = w := by
  have HD : Hid (∀ (j : Nat) (h : j < s.size), 48 ≤ s[j].toNat ∧ s[j].toNat ≤ 57) := fun j h => (isD_num _).1 (List.all_eq_true.1 hd s[j] (List.mem_of_getElem? (get_list s j h)))
  clear hd
  obtain ⟨R, hR⟩ : ∃ R, clampB limit s.data.toList 0 = R := ⟨_, rfl⟩
  have HRC : Hid (RC limit s.data.toList = if limit < R then limit else R) := by show RC limit s.data.toList = _; unfold RC; rw [hR]
  have HR : Hid (clampB limit s.data.toList 0 = R) := hR
  obtain ⟨Q, hQ⟩ : ∃ Q, RC limit s.data.toList = Q := ⟨_, rfl⟩
  rw [hQ] at HRC
  rw [hQ]
  clear hR hQ
  go_enter Tryd.func15, Tryd.ntmps15
  go_wp2
  go_loop [5, 6] (fun v x => ∃ i n : Nat, i ≤ s.size ∧ v = .int .i64 n ∧ x = .int .i64 i ∧ n ≤ 10 * limit + 9 ∧ Hid (clampB limit (s.data.toList.drop i) n = R)) (fun _ x => s.size - (intOf x).toNat)
  case atStart => exact ⟨0, 0, Nat.zero_le _, rfl, rfl, by omega, HR⟩
  case round =>
    obtain ⟨i, n, hi, rfl, rfl, hn, hc⟩ := hrel
    by_cases h1 : i < s.size
    · have h1I : (i : Int) < (s.size : Int) := by omega
      have hdc := drop_cons s i h1
      have hdig := HD.out i h1
      have HST : Hid (clampB limit (s.data.toList.drop (i + 1)) (if n ≤ limit then n * 10 + (s[i].toNat - 48) else n) = R) := by
        have := hc.out
        rw [hdc] at this
        exact this
      obtain ⟨y, hy⟩ : ∃ y, s[i].toNat = y := ⟨_, rfl⟩
      rw [hy] at hdig HST
      have hw : IntKind.u8.wrap ((y : Int) - 48) = ((y - 48 : Nat) : Int) := by rw [IntKind.wrap_u8]; omega
      have hz : (y : Int) - 48 = ((y - 48 : Nat) : Int) := by omega
      by_cases h2 : n ≤ limit
      · have h2I : (n : Int) ≤ (limit : Int) := by omega
        rw [if_pos h2] at HST
        clear hdc
        go_wp2
        exact ⟨⟨i + 1, n * 10 + (y - 48), by omega, by go_num, by go_num, by omega, HST⟩, by simp [intOf]; omega⟩
      · have h2I : ¬ (n : Int) ≤ (limit : Int) := by omega
        rw [if_neg h2] at HST
        clear hdc
        go_wp2
        exact ⟨⟨i + 1, n, by omega, by go_num, by go_num, by omega, HST⟩, by simp [intOf]; omega⟩
    · have h1I : ¬ (i : Int) < (s.size : Int) := by omega
      have hnR : n = R := by
        have := hc.out
        rw [drop_end s i (by omega)] at this
        exact this
      subst hnR
      by_cases h2 : limit < n
      · have h2I : (limit : Int) < (n : Int) := by omega
        go_wp2
        go_ret
        have := HRC.out
        rw [if_pos h2] at this
        exact ⟨by rw [this]; rfl, rfl⟩
      · have h2I : ¬ (limit : Int) < (n : Int) := by omega
        go_wp2
        go_ret
        have := HRC.out
        rw [if_neg h2] at this
        exact ⟨by rw [this]; rfl, rfl⟩
theorem zz11 (s : ByteArray) (w : World) (hs : (s.size : Int) ≤ 9223372036854775807) :
    Calls Tryd.prog 11 #[.string s] w fun e w' => e = .returned (.bool (decide (s.size ≤ 1048576))) ∧ w' = w := by
  by_cases h1 : (s.size : Int) ≤ 1048576
  · have h2 : decide (s.size ≤ 1048576) = true := decide_eq_true (by omega)
    rw [h2]
    clear h2
    go_enter Tryd.func11, Tryd.ntmps11
    go_wp2
    go_ret
    exact ⟨rfl, rfl⟩
  · have h2 : decide (s.size ≤ 1048576) = false := decide_eq_false (by omega)
    rw [h2]
    clear h2
    go_enter Tryd.func11, Tryd.ntmps11
    go_wp2
    go_ret
    exact ⟨rfl, rfl⟩
end Go.Proofs.Qxb6604131aDoor
