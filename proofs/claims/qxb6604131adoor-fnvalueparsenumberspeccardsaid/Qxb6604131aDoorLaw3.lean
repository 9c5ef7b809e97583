import Derived.Test.Qxb6604131aDoorSpn
namespace Go.Proofs.Qxb6604131aDoor
set_option linter.unusedSimpArgs false
set_option linter.unusedVariables false

theorem sgn_len (x : List UInt8) : (sgn x).2.length ≤ x.length := by
  unfold sgn
  split
  · simp
  · split
    · simp
    · exact Nat.le_refl _
theorem sct_facts {neg : Bool} {w f : List UInt8} {m : Nat} {r : List UInt8} (h : (SCt neg w f m r).ok = true) :
    (SCt neg w f m r).whole = w ∧ (SCt neg w f m r).frac = f ∧ (SCt neg w f m r).mant = m ∧ (SCt neg w f m r).digs.all isD = true ∧ (SCt neg w f m r).digs.length ≤ r.length ∧ ((SCt neg w f m r).sign = 0 ∨ (SCt neg w f m r).sign = 1 ∨ (SCt neg w f m r).sign = -1) := by
  by_cases h0 : w = [] ∧ f = []
  · rw [sct_none h0.1 h0.2] at h; cases h
  · cases r with
    | nil => rw [sct_end h0]; exact ⟨rfl, rfl, rfl, rfl, Nat.zero_le _, .inl rfl⟩
    | cons c x =>
      cases hc : isE c with
      | false => rw [sct_not h0 hc] at h; cases h
      | true =>
        rw [sct_exp h0 hc] at h ⊢
        by_cases hx : (sgn x).2 = [] ∨ (sgn x).2.all isD = false
        · rw [if_pos hx] at h; cases h
        · rw [if_neg hx]
          refine ⟨rfl, rfl, rfl, ?_, ?_, ?_⟩
          · show (sgn x).2.all isD = true
            cases hb : (sgn x).2.all isD with
            | true => rfl
            | false => exact absurd (.inr hb) hx
          · show (sgn x).2.length ≤ (c :: x).length
            have := sgn_len x
            simp; omega
          · show (if (sgn x).1 = true then (-1 : Int) else 1) = 0 ∨ _
            split
            · exact .inr (.inr rfl)
            · exact .inr (.inl rfl)
theorem tw_len (t : List UInt8) : (t.takeWhile isD).length + (t.dropWhile isD).length = t.length := by rw [← List.length_append, List.takeWhile_append_dropWhile]
theorem sc_facts {neg : Bool} {t : List UInt8} {S : Sc} (hS : SC neg t = S) (h : S.ok = true) :
    S.whole.length + S.frac.length ≤ t.length ∧ S.mant ≤ t.length ∧ S.digs.all isD = true ∧ S.digs.length ≤ t.length ∧ (S.sign = 0 ∨ S.sign = 1 ∨ S.sign = -1) := by
  subst hS
  have h1 := tw_len t
  unfold SC at h ⊢
  simp only at h ⊢
  by_cases hp : (t.dropWhile isD).head? = some 46
  · rw [if_pos hp] at h ⊢
    obtain ⟨e1, e2, e3, e4, e5, e6⟩ := sct_facts h
    rw [e1, e2, e3]
    have h2 := tw_len (t.dropWhile isD).tail
    have h3 : (t.dropWhile isD).tail.length + 1 = (t.dropWhile isD).length := by
      cases hd : t.dropWhile isD with
      | nil => rw [hd] at hp; simp at hp
      | cons c x => simp
    exact ⟨by omega, by omega, e4, by omega, e6⟩
  · rw [if_neg hp] at h ⊢
    obtain ⟨e1, e2, e3, e4, e5, e6⟩ := sct_facts h
    rw [e1, e2, e3]
    exact ⟨by simp; omega, by omega, e4, by omega, e6⟩
/-- The answer's length. -/
theorem good_len {x y d : List UInt8} {q : Int} (hh : x.head? ≠ some 48) (hl : (y.length : Int) = if q < 0 then -q else 0) (hv : (x ++ y).dropWhile isZ = d ++ zeros (if 0 < q then q else 0).toNat) (L N : Nat) (hd : d.length ≤ L) (hq1 : -(N : Int) ≤ q) (hq2 : q ≤ (N : Int)) : x.length + y.length ≤ L + N := by
  cases x with
  | nil =>
    split at hl
    · simp; omega
    · simp; omega
  | cons c x =>
    have hc : isZ c = false := by
      unfold isZ
      refine beq_eq_false_iff_ne.2 fun e => hh ?_
      rw [e]; rfl
    rw [List.cons_append, List.dropWhile_cons, hc] at hv
    have := congrArg List.length hv
    simp [zeros] at this
    simp only [List.length_cons]
    split at this
    · omega
    · simp at this; omega
end Go.Proofs.Qxb6604131aDoor
