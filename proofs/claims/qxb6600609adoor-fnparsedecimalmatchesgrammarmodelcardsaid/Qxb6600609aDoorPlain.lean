import Derived.Lib.ParseIntB
import Derived.Lib.SlTrimSet
import Derived.Lib.Strings
namespace Go.Proofs.Qxb6600609aDoor
set_option linter.unusedSimpArgs false
set_option linter.unusedVariables false

/-! ### leading bytes that pass a test -/
theorem tw_le (p : UInt8 → Bool) (l : List UInt8) : (l.takeWhile p).length ≤ l.length := by
  induction l with
  | nil => simp
  | cons a t ih => rw [List.takeWhile_cons]; split <;> simp; exact ih
theorem tw_step {p : UInt8 → Bool} : ∀ {l : List UInt8} {k : Nat} {b : UInt8}, k ≤ (l.takeWhile p).length → l[k]? = some b → p b = true → k + 1 ≤ (l.takeWhile p).length
  | [], k, b, _, h, _ => by simp at h
  | a :: t, 0, b, _, h, hp => by
    simp at h; subst h; rw [List.takeWhile_cons, if_pos hp]; simp
  | a :: t, k + 1, b, hk, h, hp => by
    rw [List.takeWhile_cons] at hk ⊢
    split at hk
    · rename_i ha
      rw [if_pos ha]
      simp only [List.length_cons] at hk ⊢
      have := tw_step (p := p) (l := t) (k := k) (b := b) (by omega) (by simpa using h) hp
      omega
    · simp at hk
theorem tw_stop {p : UInt8 → Bool} : ∀ {l : List UInt8} {k : Nat} {b : UInt8}, k ≤ (l.takeWhile p).length → l[k]? = some b → p b = false → (l.takeWhile p).length = k
  | [], k, b, _, h, _ => by simp at h
  | a :: t, 0, b, _, h, hp => by
    simp at h; subst h; rw [List.takeWhile_cons, if_neg (by simp [hp])]; simp
  | a :: t, k + 1, b, hk, h, hp => by
    rw [List.takeWhile_cons] at hk ⊢
    split at hk
    · rename_i ha
      rw [if_pos ha]
      simp only [List.length_cons] at hk ⊢
      have := tw_stop (p := p) (l := t) (k := k) (b := b) (by omega) (by simpa using h) hp
      omega
    · simp at hk
theorem take_tw (p : UInt8 → Bool) : ∀ (l : List UInt8), l.take (l.takeWhile p).length = l.takeWhile p
  | [] => rfl
  | a :: t => by
    rw [List.takeWhile_cons]
    split
    · simp [take_tw p t]
    · simp
theorem drop_tw (p : UInt8 → Bool) : ∀ (l : List UInt8), l.drop (l.takeWhile p).length = l.dropWhile p
  | [] => rfl
  | a :: t => by
    rw [List.takeWhile_cons, List.dropWhile_cons]
    split
    · simp [drop_tw p t]
    · simp
theorem get_list (s : ByteArray) (k : Nat) (h : k < s.size) : s.data.toList[k]? = some s[k] := by
  rw [List.getElem?_eq_getElem (by simpa using h)]; rfl

/-- A decimal digit. -/
def isD (c : UInt8) : Bool := decide (48 ≤ (c.toNat : Int) ∧ (c.toNat : Int) ≤ 57)
def ld (l : List UInt8) : List UInt8 := l.takeWhile isD
def rd (l : List UInt8) : List UInt8 := l.dropWhile isD
theorem isD_yes {c : UInt8} (h1 : 48 ≤ (c.toNat : Int)) (h2 : (c.toNat : Int) ≤ 57) : isD c = true := by simp only [isD, decide_eq_true_eq]; omega
theorem isD_no {c : UInt8} (h : ¬ (48 ≤ (c.toNat : Int) ∧ (c.toNat : Int) ≤ 57)) : isD c = false := by simp only [isD, decide_eq_false_iff_not]; exact h

/-! ### the model's exponent -/
/-- One step of the model's saturating sum. -/
def satStep (m : Int) (c : UInt8) : Int := if m > 115292150460684697 then 1152921504606846977 else m * 10 + ((c.toNat : Int) - 48)
def satv (l : List UInt8) : Int := l.foldl satStep 0
def mag (l : List UInt8) : Int := min (satv l) 1152921504606846976
def fin (neg : Bool) (ds : List UInt8) : Option Int := if ds ≠ [] ∧ ds.all isD = true then some (if neg then -mag ds else mag ds) else none
def mexp : List UInt8 → Option Int
  | [] => none
  | c :: r => if c = 101 ∨ c = 69 then
      (match r with
       | [] => none
       | d :: t => if d = 43 then fin false t else if d = 45 then fin true t else fin false (d :: t))
    else none
theorem satv_snoc (l : List UInt8) (c : UInt8) : satv (l ++ [c]) = satStep (satv l) c := by simp [satv, List.foldl_append]
theorem satStep_bd {m : Int} {c : UInt8} (h0 : 0 ≤ m) (hc : isD c = true) : 0 ≤ satStep m c ∧ satStep m c ≤ 1152921504606846979 := by
  simp only [isD, decide_eq_true_eq] at hc
  unfold satStep
  split <;> omega
theorem satv_bd_aux : ∀ (l : List UInt8) (m : Int), 0 ≤ m → m ≤ 1152921504606846979 → l.all isD = true → 0 ≤ l.foldl satStep m ∧ l.foldl satStep m ≤ 1152921504606846979
  | [], m, h0, h1, _ => ⟨h0, h1⟩
  | c :: t, m, h0, _, h => by
    simp only [List.all_cons, Bool.and_eq_true] at h
    have := satStep_bd h0 h.1
    exact satv_bd_aux t (satStep m c) this.1 this.2 h.2
theorem satv_bd (l : List UInt8) (h : l.all isD = true) : 0 ≤ satv l ∧ satv l ≤ 1152921504606846979 := satv_bd_aux l 0 (by omega) (by omega) h
theorem mag_bd (l : List UInt8) (h : l.all isD = true) : 0 ≤ mag l ∧ mag l ≤ 1152921504606846976 := by
  have := satv_bd l h
  unfold mag; omega

/-- What the digits spell. -/
def dval (acc : Nat) (l : List UInt8) : Nat := l.foldl (fun a c => a * 10 + (c.toNat - 48)) acc
theorem dval_ge : ∀ (l : List UInt8) (acc : Nat), acc ≤ dval acc l
  | [], _ => Nat.le_refl _
  | c :: t, acc => Nat.le_trans (by omega) (dval_ge t (acc * 10 + (c.toNat - 48)))
theorem dval_cons (c : UInt8) (t : List UInt8) (acc : Nat) : dval acc (c :: t) = dval (acc * 10 + (c.toNat - 48)) t := by simp only [dval, List.foldl_cons]
theorem isD_iff (c : UInt8) : isD c = true ↔ 48 ≤ c.toNat ∧ c.toNat ≤ 57 := by simp only [isD, decide_eq_true_eq]; omega

/-- The saturating sum follows the value up to the bound. -/
theorem sat_dval : ∀ (l : List UInt8) (m : Int) (v : Nat), l.all isD = true → ((m = v ∧ m ≤ 1152921504606846979) ∨ (m = 1152921504606846977 ∧ 1152921504606846976 < v)) →
    (l.foldl satStep m = (dval v l : Nat) ∨ (l.foldl satStep m = 1152921504606846977 ∧ 1152921504606846976 < dval v l))
  | [], m, v, _, h => by
    rcases h with ⟨h, _⟩ | h
    · exact .inl h
    · exact .inr h
  | c :: t, m, v, hl, h => by
    simp only [List.all_cons, Bool.and_eq_true] at hl
    have hc := (isD_iff c).1 hl.1
    rw [List.foldl_cons, dval_cons]
    refine sat_dval t _ _ hl.2 ?_
    unfold satStep
    rcases h with ⟨h, h'⟩ | ⟨h, h'⟩
    · split
      · exact .inr ⟨rfl, by omega⟩
      · exact .inl ⟨by omega, by omega⟩
    · rw [if_pos (by omega)]; exact .inr ⟨rfl, by omega⟩
theorem mag_dval (l : List UInt8) (h : l.all isD = true) : mag l = min ((dval 0 l : Nat) : Int) 1152921504606846976 := by
  unfold mag satv
  rcases sat_dval l 0 0 h (.inl ⟨rfl, by omega⟩) with h | ⟨h, h'⟩
  · rw [h]
  · rw [h]; omega

/-- ParseUint's sum, over digits alone. -/
theorem parseU : ∀ (l : List UInt8) (acc : Nat), l.all isD = true →
    (∃ u, Lib.parseUintM (2 ^ 64 - 1) acc l = .ok u ∧ u = dval acc l) ∨ (Lib.parseUintM (2 ^ 64 - 1) acc l = .range ∧ 18446744073709551616 ≤ dval acc l)
  | [], acc, _ => .inl ⟨acc, rfl, rfl⟩
  | c :: t, acc, hl => by
    simp only [List.all_cons, Bool.and_eq_true] at hl
    have hc := (isD_iff c).1 hl.1
    rw [Lib.parseUintM, if_pos hc, dval_cons]
    have hge := dval_ge t (acc * 10 + (c.toNat - 48))
    split
    · exact .inr ⟨rfl, by omega⟩
    · split
      · exact .inr ⟨rfl, by omega⟩
      · exact parseU t _ hl.2
/-- strconv.ParseInt(s, 10, 64)'s number, whatever the error. -/
def pint (l : List UInt8) : Int := match Lib.parseIntB 64 l with
  | .ok v => v
  | .range => Lib.intSat 64 l
  | _ => 0
def clampE (v : Int) : Int := min (max v (-1152921504606846976)) 1152921504606846976
theorem pint_bd (l : List UInt8) : -9223372036854775808 ≤ pint l ∧ pint l ≤ 9223372036854775807 := by
  unfold pint
  split
  · rename_i v h
    unfold Lib.parseIntB at h
    split at h
    · cases h
    · rename_i c r
      simp only at h
      split at h
      · cases h
      · cases h
      · rename_i u _
        split at h
        · cases h
        · rename_i h1
          split at h
          · cases h
          · rename_i h2
            cases h
            simp only [Nat.reduceSub, Nat.reducePow] at h1 h2
            by_cases hc : c.toNat = 45 <;> simp only [hc, not_true_eq_false, false_and, not_false_eq_true, true_and, if_true, if_false] at h1 h2 ⊢ <;> omega
  · unfold Lib.intSat
    split <;> simp
  · omega
theorem pint_plain (l : List UInt8) (hne : l ≠ []) (h : l.all isD = true) : clampE (pint l) = mag l := by
  rw [mag_dval l h]
  obtain ⟨c, t, rfl⟩ : ∃ c t, l = c :: t := by cases l with | nil => exact absurd rfl hne | cons c t => exact ⟨c, t, rfl⟩
  have hc : isD c = true := by simp only [List.all_cons, Bool.and_eq_true] at h; exact h.1
  have hc' := (isD_iff c).1 hc
  have e1 : ¬ c.toNat = 43 := by omega
  have e2 : ¬ c.toNat = 45 := by omega
  unfold pint Lib.parseIntB
  simp only [e1, e2, or_self, if_false, Lib.parseUintB, reduceCtorEq, false_and, not_false_eq_true, true_and]
  unfold clampE
  rcases parseU (c :: t) 0 h with ⟨u, hu, he⟩ | ⟨hr, hv⟩
  · rw [hu]
    simp only
    by_cases hb : 2 ^ (64 - 1) ≤ u
    · simp only [hb, if_true]
      simp only [Lib.intSat, List.head?_cons, Option.map_some, Option.some.injEq, e2, if_false]
      rw [← he]
      simp only [Nat.reduceSub, Nat.reducePow] at hb ⊢
      omega
    · simp only [hb, if_false, ← he]; omega
  · rw [hr]
    simp only [Lib.intSat, List.head?_cons, Option.map_some, Option.some.injEq, e2, if_false]
    simp only [Nat.reduceSub, Nat.reducePow]
    omega
theorem pint_minus (l : List UInt8) (hne : l ≠ []) (h : l.all isD = true) : clampE (pint (45 :: l)) = -mag l := by
  rw [mag_dval l h]
  have e2 : (45 : UInt8).toNat = 45 := rfl
  unfold pint Lib.parseIntB
  simp only [e2, or_true, if_true, Lib.parseUintB, if_neg hne, not_true_eq_false, false_and, if_false, true_and]
  unfold clampE
  rcases parseU l 0 h with ⟨u, hu, he⟩ | ⟨hr, hv⟩
  · rw [hu]
    simp only
    by_cases hb : 2 ^ (64 - 1) < u
    · simp only [hb, if_true]
      simp only [Lib.intSat, List.head?_cons, Option.map_some, e2, if_true]
      rw [← he]
      simp only [Nat.reduceSub, Nat.reducePow] at hb ⊢
      omega
    · simp only [hb, if_false, ← he]; omega
  · rw [hr]
    simp only [Lib.intSat, List.head?_cons, Option.map_some, e2, if_true]
    simp only [Nat.reduceSub, Nat.reducePow]
    omega

/-! ### the program's exponent: behind its 'e' -/
def pexpR (r : List UInt8) : Option Int :=
  let t := Lib.trimLeftS r [43, 45]
  if ld t = [] ∨ rd t ≠ [] ∨ 1 < (r.length : Int) - (ld t).length then none else some (clampE (pint (Lib.trimPrefix r [43])))
theorem ld_rd (l : List UInt8) : ld l ++ rd l = l := List.takeWhile_append_dropWhile
theorem rd_nil {l : List UInt8} (h : rd l = []) : ld l = l := by have := ld_rd l; rw [h, List.append_nil] at this; exact this
theorem all_ld (l : List UInt8) : (ld l).all isD = true := by
  rw [List.all_eq_true]
  intro x hx
  induction l with
  | nil => simp [ld] at hx
  | cons a t ih =>
    unfold ld at hx ih
    rw [List.takeWhile_cons] at hx
    split at hx
    · rename_i ha
      rcases List.mem_cons.1 hx with rfl | hx
      · exact ha
      · exact ih hx
    · simp at hx
theorem ld_all {l : List UInt8} (h : l.all isD = true) : ld l = l ∧ rd l = [] := by
  induction l with
  | nil => exact ⟨rfl, rfl⟩
  | cons a t ih =>
    simp only [List.all_cons, Bool.and_eq_true] at h
    have := ih h.2
    unfold ld rd at this ⊢
    rw [List.takeWhile_cons, List.dropWhile_cons, if_pos h.1, if_pos h.1, this.1, this.2]
    exact ⟨rfl, rfl⟩
theorem fin_some {neg : Bool} {l : List UInt8} (h : l ≠ []) (ha : l.all isD = true) : fin neg l = some (if neg then -mag l else mag l) := by unfold fin; rw [if_pos ⟨h, ha⟩]
theorem fin_none {neg : Bool} {l : List UInt8} (h : ld l = [] ∨ rd l ≠ []) : fin neg l = none := by
  unfold fin
  rw [if_neg]
  rintro ⟨h1, h2⟩
  have := ld_all h2
  rcases h with h | h
  · rw [this.1] at h; exact h1 h
  · exact h this.2
theorem trimS_cons_in (c : UInt8) (t : List UInt8) (h : c = 43 ∨ c = 45) : Lib.trimLeftS (c :: t) [43, 45] = Lib.trimLeftS t [43, 45] := by
  unfold Lib.trimLeftS; rw [List.dropWhile_cons, if_pos (by rcases h with rfl | rfl <;> decide)]
theorem trimS_cons_out (c : UInt8) (t : List UInt8) (h1 : c ≠ 43) (h2 : c ≠ 45) : Lib.trimLeftS (c :: t) [43, 45] = c :: t := by
  unfold Lib.trimLeftS; rw [List.dropWhile_cons, if_neg (by simp [h1, h2])]
theorem trimS_len (t : List UInt8) (cs : List UInt8) : (Lib.trimLeftS t cs).length ≤ t.length := by
  unfold Lib.trimLeftS; exact (List.dropWhile_suffix _).length_le
theorem tp_plus (t : List UInt8) : Lib.trimPrefix (43 :: t) [43] = t := by simp [Lib.trimPrefix, Lib.hasPrefix, List.isPrefixOf]
theorem tp_other (c : UInt8) (t : List UInt8) (h : c ≠ 43) : Lib.trimPrefix (c :: t) [43] = c :: t := by
  simp [Lib.trimPrefix, Lib.hasPrefix, List.isPrefixOf, h.symm]
theorem ld_len (l : List UInt8) : (ld l).length ≤ l.length := tw_le _ _
theorem sign_not {c : UInt8} (h : c = 43 ∨ c = 45) : isD c = false := by rcases h with rfl | rfl <;> decide
theorem pexpR_eq (r : List UInt8) : pexpR r = (match r with
       | [] => none
       | d :: t => if d = 43 then fin false t else if d = 45 then fin true t else fin false (d :: t)) := by
  cases r with
  | nil => simp [pexpR, Lib.trimLeftS, ld]
  | cons d t =>
    simp only
    by_cases hs : d = 43 ∨ d = 45
    · -- a sign
      have key : ∀ neg, (ld t = [] ∨ rd t ≠ []) → pexpR (d :: t) = none ∧ fin neg t = none := by
        intro neg h
        refine ⟨?_, fin_none h⟩
        unfold pexpR
        rw [trimS_cons_in d t hs]
        simp only
        by_cases hne : Lib.trimLeftS t [43, 45] = t
        · rw [hne, if_pos (by rcases h with h | h; exact .inl h; exact .inr (.inl h))]
        · rw [if_pos]
          refine .inr (.inr ?_)
          have h1 := ld_len (Lib.trimLeftS t [43, 45])
          have h2 : (Lib.trimLeftS t [43, 45]).length < t.length := by
            have h3 := trimS_len t [43, 45]
            rcases Nat.lt_or_ge (Lib.trimLeftS t [43, 45]).length t.length with h4 | h4
            · exact h4
            · exact absurd ((List.dropWhile_suffix (fun x => [43, 45].contains x)).eq_of_length (by unfold Lib.trimLeftS at h3 h4; omega)) hne
          simp only [List.length_cons]; omega
      by_cases hb : ld t = [] ∨ rd t ≠ []
      · have k1 := key false hb
        have k2 := key true hb
        rw [k1.1]
        rcases hs with rfl | rfl
        · rw [if_pos rfl, k1.2]
        · rw [if_neg (by decide), if_pos rfl, k2.2]
      · simp only [not_or, Decidable.not_not] at hb
        have hl := rd_nil hb.2
        have hall : t.all isD = true := by rw [← hl]; exact all_ld t
        have hne : t ≠ [] := by intro e; rw [hl] at hb; exact hb.1 e
        have ht : Lib.trimLeftS t [43, 45] = t := by
          cases t with
          | nil => exact absurd rfl hne
          | cons x y =>
            have hx : isD x = true := by simp only [List.all_cons, Bool.and_eq_true] at hall; exact hall.1
            refine trimS_cons_out x y ?_ ?_
            · rintro rfl; exact absurd hx (by decide)
            · rintro rfl; exact absurd hx (by decide)
        unfold pexpR
        rw [trimS_cons_in d t hs]
        simp only
        rw [ht, hl, if_neg (by
          simp only [not_or, Decidable.not_not]
          refine ⟨hne, hb.2, ?_⟩
          simp only [List.length_cons]; omega)]
        rcases hs with rfl | rfl
        · rw [if_pos rfl, tp_plus, pint_plain t hne hall, fin_some hne hall]; rfl
        · rw [if_neg (by decide), if_pos rfl, tp_other 45 t (by decide), pint_minus t hne hall, fin_some hne hall]; rfl
    · simp only [not_or] at hs
      rw [if_neg hs.1, if_neg hs.2]
      unfold pexpR
      rw [trimS_cons_out d t hs.1 hs.2]
      simp only
      by_cases hb : ld (d :: t) = [] ∨ rd (d :: t) ≠ []
      · rw [fin_none hb, if_pos (by rcases hb with h | h; exact .inl h; exact .inr (.inl h))]
      · simp only [not_or, Decidable.not_not] at hb
        have hl := rd_nil hb.2
        have hall : (d :: t).all isD = true := by rw [← hl]; exact all_ld _
        rw [hl, if_neg (by
          simp only [not_or, Decidable.not_not]
          exact ⟨by simp, hb.2, by omega⟩), tp_other d t hs.1, pint_plain _ (by simp) hall, fin_some (by simp) hall]; rfl

end Go.Proofs.Qxb6600609aDoor
