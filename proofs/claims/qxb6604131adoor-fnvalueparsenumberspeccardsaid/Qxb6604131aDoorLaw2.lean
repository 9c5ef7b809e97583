import Derived.Test.Qxb6604131aDoorLaw
namespace Go.Proofs.Qxb6604131aDoor
set_option linter.unusedSimpArgs false
set_option linter.unusedVariables false

/-- pv1ReadClamped. -/
def RC (limit : Nat) (ds : List UInt8) : Nat := if limit < clampB limit ds 0 then limit else clampB limit ds 0
theorem clamp_eq (limit : Nat) : ∀ (l : List UInt8) (n : Nat), clampA limit l (min n limit) = min (clampB limit l n) limit
  | [], n => rfl
  | c :: l, n => by
    simp only [clampA, clampB]
    by_cases h : n ≤ limit
    · rw [if_pos h, ← clamp_eq limit l, Nat.min_eq_left h]
    · rw [if_neg h, ← clamp_eq limit l, Nat.min_eq_right (by omega : limit ≤ n)]
      congr 1
      omega
theorem rc_eq (limit : Nat) (ds : List UInt8) : RC limit ds = clampA limit ds 0 := by
  have := clamp_eq limit ds 0
  rw [Nat.zero_min] at this
  rw [this]
  unfold RC
  split <;> omega
theorem drop_drop (w f : List UInt8) : (w.dropWhile isZ ++ f).dropWhile isZ = (w ++ f).dropWhile isZ := by
  have h := takeWhile_pre (p := isZ) (w.takeWhile isZ) (w.dropWhile isZ ++ f) (all_takeWhile isZ w)
  rw [← h.2, ← List.append_assoc, split]
theorem drop_len (p : UInt8 → Bool) : ∀ l : List UInt8, (l.dropWhile p).length ≤ l.length
  | [] => Nat.le_refl _
  | c :: l => by
    simp only [List.dropWhile_cons]
    split
    · have := drop_len p l; simp only [List.length_cons]; omega
    · exact Nat.le_refl _
theorem drop_head {d : List UInt8} (h : d.dropWhile isZ = d) (h0 : d ≠ []) (y : List UInt8) : (d ++ y).dropWhile isZ = d ++ y := by
  cases d with
  | nil => exact absurd rfl h0
  | cons c d =>
    have hc : isZ c = false := head_dropWhile isZ _ c d h
    simp [List.dropWhile_cons, hc]
theorem drop_idem (l : List UInt8) : (l.dropWhile isZ).dropWhile isZ = l.dropWhile isZ := by
  cases h : l.dropWhile isZ with
  | nil => rfl
  | cons c r => simp [List.dropWhile_cons, head_dropWhile isZ l c r h]
theorem drop_zeros (n : Nat) (d : List UInt8) : (zeros n ++ d).dropWhile isZ = d.dropWhile isZ := by
  have := takeWhile_pre (p := isZ) (zeros n) d (fun c hc => by rw [List.eq_of_mem_replicate hc]; rfl)
  exact this.2
theorem head_not {d : List UInt8} (h : d.dropWhile isZ = d) (y : List UInt8) (h0 : d ≠ []) : (d ++ y).head? ≠ some 48 := by
  cases d with
  | nil => exact absurd rfl h0
  | cons c d =>
    have hc : isZ c = false := head_dropWhile isZ _ c d h
    intro e
    simp only [List.cons_append, List.head?_cons, Option.some.injEq] at e
    rw [e] at hc
    cases hc
theorem drop_nil {l : List UInt8} (h : l.dropWhile isZ = []) : l.all isZ = true := by
  have := split isZ l
  rw [h, List.append_nil] at this
  rw [← this]
  exact all_of (all_takeWhile isZ l)
theorem nil_of_all : ∀ {l : List UInt8}, l.all isZ = true → l.dropWhile isZ = []
  | [], _ => rfl
  | c :: l, h => by
    simp only [List.all_cons, Bool.and_eq_true] at h
    simp only [List.dropWhile_cons, h.1, if_true]
    exact nil_of_all h.2
theorem no_keeps {neg : Bool} {w f : List UInt8} (h : (w ++ f).dropWhile isZ ≠ []) : NO neg w f = neg := by
  unfold NO
  rw [if_neg]
  rintro ⟨rfl, hf⟩
  exact h (nil_of_all hf)
/-- What the law asks of the answer. -/
structure Good (s : Sc) (g : Bool × List UInt8 × List UInt8 × Bool) : Prop where
  ok : g.2.2.2 = true
  zero : (s.whole ++ s.frac).dropWhile isZ = [] → g.1 = false ∧ g.2.1 = [] ∧ g.2.2.1 = s.frac
  neg : (s.whole ++ s.frac).dropWhile isZ ≠ [] → g.1 = s.neg
  head : (s.whole ++ s.frac).dropWhile isZ ≠ [] → g.2.1.head? ≠ some 48
  len : (s.whole ++ s.frac).dropWhile isZ ≠ [] → ∀ q : Int, q = s.sign * (RC (s.mant + 1500) s.digs : Int) - (s.frac.length : Int) → (g.2.2.1.length : Int) = if q < 0 then -q else 0
  val : (s.whole ++ s.frac).dropWhile isZ ≠ [] → ∀ q : Int, q = s.sign * (RC (s.mant + 1500) s.digs : Int) - (s.frac.length : Int) → (g.2.1 ++ g.2.2.1).dropWhile isZ = (s.whole ++ s.frac).dropWhile isZ ++ zeros (if 0 < q then q else 0).toNat
theorem sh_zero {w f : List UInt8} (n : Int) (h : (w ++ f).dropWhile isZ = []) : SH w f n = (w, f) := by unfold SH; simp only; rw [if_pos h]
theorem sh_facts {w f d : List UInt8} {n q : Int} (hd : (w ++ f).dropWhile isZ = d) (h0 : d ≠ []) (hq : q = n - (f.length : Int)) :
    ((SH w f n).2.length : Int) = (if q < 0 then -q else 0) ∧ (SH w f n).1.head? ≠ some 48 ∧ ((SH w f n).1 ++ (SH w f n).2).dropWhile isZ = d ++ zeros (if 0 < q then q else 0).toNat := by
  have hdd : d.dropWhile isZ = d := by rw [← hd, drop_idem]
  have hle : d.length ≤ w.length + f.length := by have := drop_len isZ (w ++ f); rw [hd, List.length_append] at this; exact this
  have hdp : 0 < d.length := by cases d with | nil => exact absurd rfl h0 | cons c d => simp
  unfold SH
  simp only [hd]
  rw [if_neg h0]
  simp only [List.length_append]
  obtain ⟨p, hp⟩ : ∃ p : Int, (w.length : Int) + n - (((w.length + f.length : Nat) : Int) - (d.length : Int)) = p := ⟨_, rfl⟩
  rw [hp]
  have hpq : p = q + d.length := by omega
  by_cases h1 : (d.length : Int) ≤ p
  · rw [if_pos h1]
    refine ⟨by simp; omega, head_not hdd _ h0, ?_⟩
    simp only [List.append_nil]
    rw [drop_head hdd h0]
    congr 2
    split <;> omega
  · rw [if_neg h1]
    by_cases h2 : 0 < p
    · rw [if_pos h2]
      refine ⟨?_, ?_, ?_⟩
      · simp only [List.length_drop]
        rw [if_pos (by omega)]
        omega
      · cases d with
        | nil => exact absurd rfl h0
        | cons c d =>
          obtain ⟨k, hk⟩ : ∃ k, p.toNat = k + 1 := ⟨p.toNat - 1, by omega⟩
          simp only [hk, List.take_succ_cons]
          have hc : isZ c = false := head_dropWhile isZ _ c d hdd
          intro e
          simp only [List.head?_cons, Option.some.injEq] at e
          rw [e] at hc
          cases hc
      · simp only [List.take_append_drop]
        rw [hdd, if_neg (by omega)]
        simp [zeros]
    · rw [if_neg h2]
      refine ⟨?_, by simp, ?_⟩
      · simp only [List.length_append, zeros, List.length_replicate]
        rw [if_pos (by omega)]
        omega
      · simp only [List.nil_append]
        rw [drop_zeros, hdd, if_neg (by omega)]
        simp [zeros]
theorem an_good (s : Sc) (hok : s.ok = true) : Good s (AN s) := by
  have hwf := drop_drop s.whole s.frac
  by_cases hs : s.sign = 0
  · have e : AN s = (NO s.neg (s.whole.dropWhile isZ) s.frac, s.whole.dropWhile isZ, s.frac, true) := by
      unfold AN; rw [if_neg (by rw [hok]; decide), if_pos hs]
    rw [e]
    refine ⟨rfl, fun hz => ?_, fun hn => ?_, fun hn => ?_, fun hn q hq => ?_, fun hn q hq => ?_⟩
    · have hall := drop_nil hz
      rw [List.all_append, Bool.and_eq_true] at hall
      have hw0 := nil_of_all hall.1
      refine ⟨?_, hw0, rfl⟩
      show NO s.neg (s.whole.dropWhile isZ) s.frac = false
      unfold NO
      rw [if_pos ⟨hw0, hall.2⟩]
    · exact no_keeps (by rw [hwf]; exact hn)
    · show (s.whole.dropWhile isZ).head? ≠ some 48
      by_cases h0 : s.whole.dropWhile isZ = []
      · rw [h0]; simp
      · have := head_not (drop_idem s.whole) [] h0
        rwa [List.append_nil] at this
    · rw [hs] at hq
      show (s.frac.length : Int) = _
      split <;> omega
    · rw [hs] at hq
      show (s.whole.dropWhile isZ ++ s.frac).dropWhile isZ = _
      rw [hwf, if_neg (by omega)]
      simp [zeros]
  · obtain ⟨n, hn⟩ : ∃ n : Int, s.sign * (clampA (s.mant + 1500) s.digs 0 : Int) = n := ⟨_, rfl⟩
    have e : AN s = (NO s.neg (SH (s.whole.dropWhile isZ) s.frac n).1 (SH (s.whole.dropWhile isZ) s.frac n).2, (SH (s.whole.dropWhile isZ) s.frac n).1, (SH (s.whole.dropWhile isZ) s.frac n).2, true) := by
      unfold AN; rw [if_neg (by rw [hok]; decide), if_neg hs]; simp only [hn]
    rw [e]
    refine ⟨rfl, fun hz => ?_, fun h0 => ?_, fun h0 => ?_, fun h0 q hq => ?_, fun h0 q hq => ?_⟩
    · have hall := drop_nil hz
      rw [List.all_append, Bool.and_eq_true] at hall
      have hw0 := nil_of_all hall.1
      rw [sh_zero n (by rw [hwf]; exact hz)]
      refine ⟨?_, hw0, rfl⟩
      show NO s.neg (s.whole.dropWhile isZ) s.frac = false
      unfold NO
      rw [if_pos ⟨hw0, hall.2⟩]
    · have := (sh_facts (n := n) hwf h0 rfl).2.2
      refine no_keeps ?_
      rw [this]
      exact fun h => h0 (List.append_eq_nil_iff.1 h).1
    · exact (sh_facts (n := n) hwf h0 rfl).2.1
    · rw [rc_eq, hn] at hq
      exact (sh_facts (n := n) hwf h0 hq).1
    · rw [rc_eq, hn] at hq
      exact (sh_facts (n := n) hwf h0 hq).2.2
end Go.Proofs.Qxb6604131aDoor
