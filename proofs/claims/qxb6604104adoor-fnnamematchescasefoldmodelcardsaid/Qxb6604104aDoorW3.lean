import Derived.Test.Qxb6604104aDoorW2
import Derived.BigRegion
import Derived.BigQuiet
import Derived.Deep.QuietTactic
namespace Go.Proofs.Qxb6604104aDoor
open Go.RowKit
set_option linter.unusedSimpArgs false
set_option linter.unusedVariables false

/-- A byte of a string, as a number. -/
def bt (s : ByteArray) (j : Nat) : Nat := if h : j < s.size then s[j].toNat else 0
theorem bt_eq {s : ByteArray} {j : Nat} (h : j < s.size) : bt s j = s[j].toNat := by simp [bt, h]
theorem bt_lt (s : ByteArray) (j : Nat) : bt s j < 256 := by
  unfold bt
  split
  · exact UInt8.toNat_lt _
  · omega
/-- ASCII lower case. -/
def low (c : Nat) : Nat := if 65 ≤ c ∧ c ≤ 90 then c + 32 else c
/-- The window at j is the key up to ASCII case. -/
def Mt (s key : ByteArray) (j : Nat) : Prop := ∀ t, t < key.size → low (bt s (j + t)) = low (bt key t)
theorem foldEq_iff (x y : UInt8) : Lib.foldEq x y = true ↔ low x.toNat = low y.toNat := by
  unfold Lib.foldEq low
  rw [decide_eq_true_eq]
  (repeat' split) <;> omega
theorem equalFold_iff : ∀ l1 l2 : List UInt8, Lib.equalFold l1 l2 = true ↔ l1.length = l2.length ∧ ∀ j, j < l2.length → low (l1.getD j 0).toNat = low (l2.getD j 0).toNat
  | [], [] => by simp [Lib.equalFold]
  | [], y :: t => by simp [Lib.equalFold]
  | x :: s, [] => by simp [Lib.equalFold]
  | x :: s, y :: t => by
    simp only [Lib.equalFold, Bool.and_eq_true, foldEq_iff, equalFold_iff s t, List.length_cons]
    constructor
    · rintro ⟨h0, h1, h2⟩
      refine ⟨by omega, fun j hj => ?_⟩
      cases j with
      | zero => simpa using h0
      | succ j => simpa using h2 j (by omega)
    · rintro ⟨h1, h2⟩
      refine ⟨by simpa using h2 0 (by omega), by omega, fun j hj => by simpa using h2 (j + 1) (by omega)⟩
theorem getD_bt (s : ByteArray) (j : Nat) (h : j < s.size) : (s.data.toList.getD j 0).toNat = bt s j := by
  rw [bt_eq h, List.getD_eq_getElem?_getD, get_list s j h]; rfl
theorem bt_win (s : ByteArray) (i n t : Nat) (h : i + n ≤ s.size) (ht : t < n) : bt (s.extract i (i + n)) t = bt s (i + t) := by
  have h1 : t < (s.extract i (i + n)).size := by simp; omega
  rw [bt_eq h1, bt_eq (by omega : i + t < s.size)]
  simp [ByteArray.getElem_extract]
theorem first_high (s : ByteArray) (h : ¬ Asc s) : ∃ p, ∃ hp : p < s.size, 128 ≤ s[p].toNat ∧ ∀ (j : Nat) (h : j < s.size), j < p → s[j].toNat < 128 := by
  have key : ∀ n, n ≤ s.size → (∀ (j : Nat) (h : j < s.size), j < n → s[j].toNat < 128) ∨ ∃ p, ∃ hp : p < s.size, 128 ≤ s[p].toNat ∧ ∀ (j : Nat) (h : j < s.size), j < p → s[j].toNat < 128 := by
    intro n
    induction n with
    | zero => intro _; exact .inl fun j h hj => absurd hj (by omega)
    | succ n ih =>
      intro hn
      rcases ih (by omega) with h1 | h1
      · by_cases hc : s[n].toNat < 128
        · refine .inl fun j hj hjn => ?_
          by_cases e : j = n
          · subst e; exact hc
          · exact h1 j hj (by omega)
        · exact .inr ⟨n, by omega, by omega, fun j hj hjn => h1 j hj hjn⟩
      · exact .inr h1
  rcases key s.size (Nat.le_refl _) with h1 | h1
  · exact absurd (fun j hj => h1 j hj hj) h
  · exact h1
theorem asc_list {s : ByteArray} (h : Asc s) : ∀ (j : Nat) b, s.data.toList[j]? = some b → b.toNat < 128 := by
  intro j b hb
  have hj : j < s.size := by
    have := (List.getElem?_eq_some_iff.1 hb).1
    simpa using this
  rw [get_list s j hj] at hb
  cases hb
  exact h j hj
theorem low_lt {c : Nat} (h : c < 128) : low c < 128 := by unfold low; split <;> omega
theorem low_high {c : Nat} (h : 128 ≤ c) : low c = c := by unfold low; split <;> omega

/-- strings.EqualFold at a window and an ASCII key. -/
theorem ef_any (s : ByteArray) (i : Nat) (key : ByteArray) (w : World) (h : i + key.size ≤ s.size) (hs : s.size ≤ 65536) (hk : Asc key) (ht : Tabs w) :
    Calls Tryd.prog 17 #[.string (s.extract i (i + key.size)), .string key] w fun e w' => ∃ b : Bool, e = .returned (.bool b) ∧ (b = true ↔ Mt s key i) ∧ Below w.heap.size w w' := by
  have hz : (s.extract i (i + key.size)).size = key.size := by simp; omega
  by_cases ha : Asc (s.extract i (i + key.size))
  · refine (Tryd.strings_EqualFold _ key w (by omega) (asc_list ha) (asc_list hk)).mono ?_
    rintro e w' ⟨rfl, rfl⟩
    refine ⟨_, rfl, ?_, Below.refl _ _⟩
    rw [equalFold_iff]
    constructor
    · rintro ⟨_, h2⟩ t htk
      have := h2 t (by simpa using htk)
      rw [getD_bt _ _ (by omega), getD_bt _ _ htk, bt_win s i _ t h htk] at this
      exact this
    · intro hm
      refine ⟨by simp; omega, fun j hj => ?_⟩
      have hj' : j < key.size := by simpa using hj
      rw [getD_bt _ _ (by omega), getD_bt _ _ hj', bt_win s i _ j h hj']
      exact hm j hj'
  · obtain ⟨p, hp, hb, hlo⟩ := first_high _ ha
    refine (ef_uni _ key w hz (by omega) p hp hb hlo hk ht).mono ?_
    rintro e w' ⟨rfl, hbw⟩
    refine ⟨false, rfl, ?_, hbw⟩
    constructor
    · intro hf; cases hf
    · intro hm
      exfalso
      have hpk : p < key.size := by omega
      have h1 := hm p hpk
      rw [← bt_win s i _ p h hpk, bt_eq hp, low_high hb] at h1
      have h2 := low_lt (hk p hpk)
      rw [← bt_eq hpk] at h2
      omega
end Go.Proofs.Qxb6604104aDoor
