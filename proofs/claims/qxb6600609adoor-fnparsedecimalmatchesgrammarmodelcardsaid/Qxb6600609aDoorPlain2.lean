import Derived.Test.Qxb6600609aDoorPlain
namespace Go.Proofs.Qxb6600609aDoor
set_option linter.unusedSimpArgs false
set_option linter.unusedVariables false

/-- The answer: sign, digits, exponent, accepted. -/
abbrev Ans := Bool × List UInt8 × Int × Bool
def no : Ans := (false, [], 0, false)
def zero : Ans := (false, [], 0, true)
/-- The fraction and what is behind it. -/
def fracOf (r1 : List UInt8) : Option (List UInt8 × List UInt8) :=
  if r1.head? = some 46 then (if ld (r1.drop 1) = [] then none else some (ld (r1.drop 1), rd (r1.drop 1))) else some ([], r1)
def badWhole (whole : List UInt8) : Bool := decide (whole = [] ∨ (1 < whole.length ∧ whole.head? = some 48))
def expOf (ex : List UInt8 → Option Int) (r2 : List UInt8) : Option Int := if r2 = [] then some 0 else ex r2
def decOf (ex : List UInt8 → Option Int) (canon : Bool → List UInt8 → List UInt8 → Int → Ans) (neg : Bool) (r0 : List UInt8) : Ans :=
  if badWhole (ld r0) = true then no else
  match fracOf (rd r0) with
  | none => no
  | some (frac, r2) => match expOf ex r2 with
    | none => no
    | some e => canon neg (ld r0) frac e
def canonP (neg : Bool) (whole frac : List UInt8) (e : Int) : Ans :=
  let all := whole ++ frac
  let d := Lib.trimLeftB all 48
  if d = [] then zero else (neg, Lib.trimRightB d 48, ((whole.length : Int) - ((all.length : Int) - d.length)) + e, true)
def canonM (neg : Bool) (whole frac : List UInt8) (e : Int) : Ans :=
  let m := whole ++ frac
  let t := Lib.trimRightB m 48
  let d := Lib.trimLeftB t 48
  if d = [] then zero else (neg, d, (d.length : Int) + ((e - frac.length) + ((m.length : Int) - t.length)), true)

theorem tr_cons (a : UInt8) (t : List UInt8) (c : UInt8) : Lib.trimRightB (a :: t) c = if Lib.trimRightB t c = [] ∧ a = c then [] else a :: Lib.trimRightB t c := by
  unfold Lib.trimRightB
  rw [List.reverse_cons, List.dropWhile_append]
  by_cases h : (t.reverse.dropWhile (· == c)) = []
  · rw [h]
    simp only [List.isEmpty_nil, if_true, List.reverse_nil, true_and]
    by_cases ha : a = c
    · simp [ha, List.dropWhile]
    · have hb : (a == c) = false := by simp [ha]
      simp [ha, List.dropWhile, hb]
  · have h2 : ¬ (t.reverse.dropWhile (· == c)).reverse = [] := by simpa using h
    rw [if_neg (by simpa [List.isEmpty_iff] using h), if_neg (fun x => h2 x.1)]
    simp
theorem tl_cons (a : UInt8) (t : List UInt8) (c : UInt8) : Lib.trimLeftB (a :: t) c = if a = c then Lib.trimLeftB t c else a :: t := by
  unfold Lib.trimLeftB
  rw [List.dropWhile_cons]
  by_cases h : a = c <;> simp [h]
theorem trim_comm (c : UInt8) : ∀ l : List UInt8, Lib.trimRightB (Lib.trimLeftB l c) c = Lib.trimLeftB (Lib.trimRightB l c) c
  | [] => rfl
  | a :: t => by
    rw [tl_cons]
    by_cases h : a = c
    · rw [if_pos h, trim_comm c t, tr_cons]
      by_cases h2 : Lib.trimRightB t c = []
      · rw [if_pos ⟨h2, h⟩, h2]
      · rw [if_neg (fun x => h2 x.1), tl_cons, if_pos h]
    · rw [if_neg h, tr_cons, if_neg (fun x => h x.2), tl_cons, if_neg h]
theorem tr_nil_iff (c : UInt8) : ∀ l : List UInt8, Lib.trimRightB l c = [] ↔ Lib.trimLeftB l c = []
  | [] => by simp [Lib.trimRightB, Lib.trimLeftB]
  | a :: t => by
    rw [tl_cons, tr_cons]
    by_cases h : a = c
    · rw [if_pos h, ← tr_nil_iff c t]
      by_cases h2 : Lib.trimRightB t c = []
      · simp [h2, h]
      · rw [if_neg (fun x => h2 x.1)]; simp [h2]
    · rw [if_neg h, if_neg (fun x => h x.2)]; simp
theorem trim_len (c : UInt8) : ∀ l : List UInt8, Lib.trimLeftB l c ≠ [] → (l.length : Int) - (Lib.trimRightB l c).length = ((Lib.trimLeftB l c).length : Int) - (Lib.trimRightB (Lib.trimLeftB l c) c).length
  | [], h => absurd rfl h
  | a :: t, h => by
    rw [tl_cons] at h ⊢
    by_cases ha : a = c
    · rw [if_pos ha] at h ⊢
      have h2 : ¬ Lib.trimRightB t c = [] := fun e => h ((tr_nil_iff c t).1 e)
      have ih := trim_len c t h
      rw [tr_cons, if_neg (fun x => h2 x.1)]
      simp only [List.length_cons]
      omega
    · rw [if_neg ha]
theorem tl_idem (c : UInt8) : ∀ l : List UInt8, Lib.trimLeftB (Lib.trimLeftB l c) c = Lib.trimLeftB l c
  | [] => rfl
  | a :: t => by
    rw [tl_cons]
    by_cases h : a = c
    · rw [if_pos h]; exact tl_idem c t
    · rw [if_neg h, tl_cons, if_neg h]
theorem canon_eq (neg : Bool) (whole frac : List UInt8) (e : Int) : canonP neg whole frac e = canonM neg whole frac e := by
  unfold canonP canonM
  simp only
  rw [← trim_comm]
  by_cases h : Lib.trimLeftB (whole ++ frac) 48 = []
  · rw [if_pos h, h, if_pos (by simp [Lib.trimRightB])]
  · have h2 : ¬ Lib.trimRightB (Lib.trimLeftB (whole ++ frac) 48) 48 = [] := by
      intro e
      have e2 : Lib.trimLeftB (Lib.trimLeftB (whole ++ frac) 48) 48 = Lib.trimLeftB (whole ++ frac) 48 := tl_idem 48 _
      have e3 := (tr_nil_iff 48 _).1 e
      rw [e2] at e3
      exact h e3
    rw [if_neg h, if_neg h2]
    have hl := trim_len 48 (whole ++ frac) h
    simp only [List.length_append] at hl ⊢
    have : ((whole.length : Int) - ((whole.length + frac.length : Nat) - (Lib.trimLeftB (whole ++ frac) 48).length)) + e = ((Lib.trimRightB (Lib.trimLeftB (whole ++ frac) 48) 48).length : Int) + ((e - frac.length) + (((whole.length + frac.length : Nat) : Int) - (Lib.trimRightB (whole ++ frac) 48).length)) := by omega
    rw [this]

def pexp : List UInt8 → Option Int
  | [] => none
  | c :: r => if c = 101 ∨ c = 69 then pexpR r else none
theorem pexp_eq (l : List UInt8) : pexp l = mexp l := by
  cases l with
  | nil => rfl
  | cons c r =>
    simp only [pexp, mexp]
    split
    · rw [pexpR_eq]
    · rfl
/-- THE TWO ARE ONE. -/
theorem dec_eq (neg : Bool) (r0 : List UInt8) : decOf pexp canonP neg r0 = decOf mexp canonM neg r0 := by
  have e1 : pexp = mexp := funext pexp_eq
  have e2 : canonP = canonM := by funext a b c d; exact canon_eq a b c d
  rw [e1, e2]
def signOf (l : List UInt8) : Bool := l.head? == some 45
def restOf (l : List UInt8) : List UInt8 := if l.head? = some 45 then l.drop 1 else l
def decP (l : List UInt8) : Ans := decOf pexp canonP (signOf l) (restOf l)
def decM (l : List UInt8) : Ans := decOf mexp canonM (signOf l) (restOf l)
theorem decPM (l : List UInt8) : decP l = decM l := dec_eq _ _

/-! ### what strconv.ParseInt is handed -/
def good (l : List UInt8) : Prop := (∃ v, Lib.parseIntB 64 l = .ok v) ∨ Lib.parseIntB 64 l = .range
theorem good_plain (l : List UInt8) (hne : l ≠ []) (h : l.all isD = true) : good l := by
  obtain ⟨c, t, rfl⟩ : ∃ c t, l = c :: t := by cases l with | nil => exact absurd rfl hne | cons c t => exact ⟨c, t, rfl⟩
  have hc : isD c = true := by simp only [List.all_cons, Bool.and_eq_true] at h; exact h.1
  have hc' := (isD_iff c).1 hc
  have e1 : ¬ c.toNat = 43 := by omega
  have e2 : ¬ c.toNat = 45 := by omega
  unfold good Lib.parseIntB
  simp only [e1, e2, or_self, if_false, Lib.parseUintB, reduceCtorEq, false_and, not_false_eq_true, true_and]
  rcases parseU (c :: t) 0 h with ⟨u, hu, he⟩ | ⟨hr, hv⟩
  · rw [hu]
    simp only
    by_cases hb : 2 ^ (64 - 1) ≤ u
    · exact .inr (by simp only [hb, if_true])
    · exact .inl ⟨(u : Int), by simp only [hb, if_false]⟩
  · rw [hr]; exact .inr rfl
theorem good_minus (l : List UInt8) (hne : l ≠ []) (h : l.all isD = true) : good (45 :: l) := by
  have e2 : (45 : UInt8).toNat = 45 := rfl
  unfold good Lib.parseIntB
  simp only [e2, or_true, if_true, Lib.parseUintB, if_neg hne, not_true_eq_false, false_and, if_false, true_and]
  rcases parseU l 0 h with ⟨u, hu, he⟩ | ⟨hr, hv⟩
  · rw [hu]
    simp only
    by_cases hb : 2 ^ (64 - 1) < u
    · exact .inr (by simp only [hb, if_true])
    · exact .inl ⟨-(u : Int), by simp only [hb, if_false]⟩
  · rw [hr]; exact .inr rfl
theorem good_exp (r : List UInt8) (h1 : ld (Lib.trimLeftS r [43, 45]) ≠ []) (h2 : rd (Lib.trimLeftS r [43, 45]) = []) (h3 : ¬ 1 < (r.length : Int) - (ld (Lib.trimLeftS r [43, 45])).length) : good (Lib.trimPrefix r [43]) := by
  have hl := rd_nil h2
  have hall : (Lib.trimLeftS r [43, 45]).all isD = true := by rw [← hl]; exact all_ld _
  have hne : Lib.trimLeftS r [43, 45] ≠ [] := by intro e; rw [e] at h1; exact h1 rfl
  rw [hl] at h3
  cases r with
  | nil => exact absurd rfl hne
  | cons d t =>
    by_cases hs : d = 43 ∨ d = 45
    · rw [trimS_cons_in d t hs] at hall hne h3
      have h4 := trimS_len t [43, 45]
      have ht : Lib.trimLeftS t [43, 45] = t := (List.dropWhile_suffix (fun x => [43, 45].contains x)).eq_of_length (by
        simp only [List.length_cons] at h3; unfold Lib.trimLeftS at h3 h4; omega)
      rw [ht] at hall hne
      rcases hs with rfl | rfl
      · rw [tp_plus]; exact good_plain t hne hall
      · rw [tp_other 45 t (by decide)]; exact good_minus t hne hall
    · simp only [not_or] at hs
      rw [trimS_cons_out d t hs.1 hs.2] at hall hne
      rw [tp_other d t hs.1]; exact good_plain _ hne hall
theorem pexpR_none {r : List UInt8} (h : ld (Lib.trimLeftS r [43, 45]) = [] ∨ rd (Lib.trimLeftS r [43, 45]) ≠ [] ∨ 1 < (r.length : Int) - (ld (Lib.trimLeftS r [43, 45])).length) : pexpR r = none := by
  unfold pexpR; simp only; rw [if_pos h]
theorem pexpR_some {r : List UInt8} (h1 : ld (Lib.trimLeftS r [43, 45]) ≠ []) (h2 : rd (Lib.trimLeftS r [43, 45]) = []) (h3 : ¬ 1 < (r.length : Int) - (ld (Lib.trimLeftS r [43, 45])).length) : pexpR r = some (clampE (pint (Lib.trimPrefix r [43]))) := by
  unfold pexpR; simp only; rw [if_neg]; rintro (h | h | h); exact h1 h; exact h h2; exact h3 h
end Go.Proofs.Qxb6600609aDoor
