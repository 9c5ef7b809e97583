import Derived.Test.Qxb6604131aDoorPlain
namespace Go.Proofs.Qxb6604131aDoor
set_option linter.unusedSimpArgs false
set_option linter.unusedVariables false

/-- parseNumber's answer out of the scan's. -/
def AN (s : Sc) : Bool × List UInt8 × List UInt8 × Bool :=
  if s.ok = false then (false, [], [], false) else
    let w1 := s.whole.dropWhile isZ
    if s.sign = 0 then (NO s.neg w1 s.frac, w1, s.frac, true) else
      let n : Int := s.sign * (clampA (s.mant + 1500) s.digs 0 : Int)
      (NO s.neg (SH w1 s.frac n).1 (SH w1 s.frac n).2, (SH w1 s.frac n).1, (SH w1 s.frac n).2, true)

theorem pe_none {x : List UInt8} {l : Nat} (h : (sgn x).2 = [] ∨ (sgn x).2.all isD = false) : PE x l = none := by unfold PE; rw [if_pos h]
theorem pe_some {x : List UInt8} {l : Nat} (h : ¬ ((sgn x).2 = [] ∨ (sgn x).2.all isD = false)) : PE x l = some ((if (sgn x).1 = true then -1 else 1) * (clampA l (sgn x).2 0 : Int)) := by unfold PE; rw [if_neg h]

/-- Where the mantissa is well formed. -/
theorem pn_good {neg : Bool} {t m w f r : List UInt8} (ht : t = m ++ r) (hm : ∀ c ∈ m, notE c = true) (hr : r = [] ∨ ∃ c x, r = c :: x ∧ isE c = true)
    (hw : m.takeWhile notP = w) (hf : (m.dropWhile notP).drop 1 = f) (hwd : w.all isD = true) (hfd : f.all isD = true) : PN neg t = AN (SCt neg w f m.length r) := by
  have h1 := takeWhile_pre m r hm
  have h2 : r.takeWhile notE = [] := by
    rcases hr with rfl | ⟨c, x, rfl, hc⟩
    · rfl
    · simp [List.takeWhile_cons, notE, hc]
  have h3 : r.dropWhile notE = r := by
    rcases hr with rfl | ⟨c, x, rfl, hc⟩
    · rfl
    · simp [List.dropWhile_cons, notE, hc]
  have e1 : t.takeWhile notE = m := by rw [ht, h1.1, h2, List.append_nil]
  have e2 : t.dropWhile notE = r := by rw [ht, h1.2, h3]
  unfold PN
  simp only [e1, e2, hw, hf, hwd, hfd]
  by_cases h0 : w = [] ∧ f = []
  · have h0' : w ++ f = [] := by rw [h0.1, h0.2]; rfl
    rw [if_pos (.inl h0')]
    unfold SCt
    rw [if_pos h0]
    rfl
  · have h0' : ¬ (w ++ f = [] ∨ true = false ∨ true = false) := by
      rintro (h | h | h)
      · exact h0 (List.append_eq_nil_iff.1 h)
      · cases h
      · cases h
    rw [if_neg h0']
    unfold SCt
    rw [if_neg h0]
    rcases hr with rfl | ⟨c, x, rfl, hc⟩
    · rfl
    · have hc' : ¬ isE c = false := by rw [hc]; decide
      by_cases hx : (sgn x).2 = [] ∨ (sgn x).2.all isD = false
      · simp only [pe_none hx, if_neg hc', if_pos hx]
        rfl
      · simp only [pe_some hx, if_neg hc', if_neg hx]
        cases (sgn x).1
        · rfl
        · rfl
/-- Where it is not. -/
theorem pn_bad {neg : Bool} {t : List UInt8} (h : ((t.takeWhile notE).takeWhile notP).all isD = false ∨ (((t.takeWhile notE).dropWhile notP).drop 1).all isD = false) : PN neg t = (false, [], [], false) := by
  unfold PN
  simp only
  rw [if_pos (by rcases h with h | h; exact .inr (.inl h); exact .inr (.inr h))]
theorem sct_bad {neg : Bool} {w f : List UInt8} {m : Nat} {c : UInt8} {x : List UInt8} (h : isE c = false) : SCt neg w f m (c :: x) = noSc := by
  unfold SCt
  by_cases h0 : w = [] ∧ f = []
  · rw [if_pos h0]
  · rw [if_neg h0]
    simp only [h]
    rw [if_pos trivial]
theorem an_no : AN noSc = (false, [], [], false) := rfl
theorem split (p : UInt8 → Bool) (l : List UInt8) : l.takeWhile p ++ l.dropWhile p = l := List.takeWhile_append_dropWhile
theorem notE_of {c : UInt8} (h : isE c = false) : notE c = true := by unfold notE; rw [h]; rfl
theorem point_notP : notP 46 = false := rfl
theorem point_notE : notE 46 = true := rfl
theorem notP_of {c : UInt8} (h : c ≠ 46) : notP c = true := by unfold notP; rw [beq_eq_false_iff_ne.2 h]; rfl
theorem pn_an (neg : Bool) (t : List UInt8) : PN neg t = AN (SC neg t) := by
  have hs := split isD t
  have hwd := all_takeWhile isD t
  have hh := head_dropWhile isD t
  unfold SC
  simp only
  obtain ⟨w, hw⟩ : ∃ w, t.takeWhile isD = w := ⟨_, rfl⟩
  obtain ⟨r, hr⟩ : ∃ r, t.dropWhile isD = r := ⟨_, rfl⟩
  rw [hw, hr] at hs
  rw [hw] at hwd
  rw [hr] at hh
  rw [hw, hr]
  clear hw hr
  by_cases hdot : r.head? = some 46
  · rw [if_pos hdot]
    obtain ⟨r', rfl⟩ : ∃ r', r = 46 :: r' := by
      cases r with
      | nil => simp at hdot
      | cons c r' => simp only [List.head?_cons, Option.some.injEq] at hdot; exact ⟨r', by rw [hdot]⟩
    simp only [List.tail_cons]
    have hs2 := split isD r'
    have hfd := all_takeWhile isD r'
    have hh2 := head_dropWhile isD r'
    obtain ⟨f, hf⟩ : ∃ f, r'.takeWhile isD = f := ⟨_, rfl⟩
    obtain ⟨r2, hr2⟩ : ∃ r2, r'.dropWhile isD = r2 := ⟨_, rfl⟩
    rw [hf, hr2] at hs2
    rw [hf] at hfd
    rw [hr2] at hh2
    rw [hf, hr2]
    clear hf hr2
    have hm : ∀ c ∈ w ++ 46 :: f, notE c = true := by
      intro c hc
      rcases List.mem_append.1 hc with h | h
      · exact digit_notE (hwd c h)
      · rcases List.mem_cons.1 h with rfl | h
        · rfl
        · exact digit_notE (hfd c h)
    have hwp := takeWhile_pre (p := notP) w (46 :: f) (fun c hc => digit_notP (hwd c hc))
    have ht : t = (w ++ 46 :: f) ++ r2 := by rw [← hs, ← hs2]; simp
    by_cases hg : r2 = [] ∨ ∃ c x, r2 = c :: x ∧ isE c = true
    · have hl : (w ++ 46 :: f).length = w.length + 1 + f.length := by simp; omega
      have := pn_good (neg := neg) (w := w) (f := f) ht hm hg (by rw [hwp.1]; simp [List.takeWhile_cons, point_notP]) (by rw [hwp.2]; simp [List.dropWhile_cons, point_notP]) (all_of hwd) (all_of hfd)
      rw [hl] at this
      exact this
    · cases r2 with
      | nil => exact absurd (.inl rfl) hg
      | cons c x =>
        have hc : isE c = false := by
          cases e : isE c with
          | false => rfl
          | true => exact absurd (.inr ⟨c, x, rfl, e⟩) hg
        rw [sct_bad hc, an_no]
        apply pn_bad
        right
        have h1 := takeWhile_pre (p := notE) (w ++ 46 :: f) (c :: x) hm
        rw [ht, h1.1]
        have h2 := takeWhile_pre (p := notP) w (46 :: (f ++ (c :: x).takeWhile notE)) (fun c hc => digit_notP (hwd c hc))
        rw [show (w ++ 46 :: f) ++ (c :: x).takeWhile notE = w ++ 46 :: (f ++ (c :: x).takeWhile notE) by simp, h2.2]
        simp only [List.dropWhile_cons, point_notP, List.takeWhile_cons, notE_of hc, if_true]
        refine not_all (c := c) ?_ (hh2 c x rfl)
        simp
  · rw [if_neg hdot]
    have hm : ∀ c ∈ w, notE c = true := fun c hc => digit_notE (hwd c hc)
    have hwp := takeWhile_pre (p := notP) w [] (fun c hc => digit_notP (hwd c hc))
    by_cases hg : r = [] ∨ ∃ c x, r = c :: x ∧ isE c = true
    · exact pn_good (neg := neg) (w := w) (f := []) hs.symm hm hg (by have := hwp.1; simpa using this) (by have := hwp.2; simp at this; rw [this]; rfl) (all_of hwd) rfl
    · cases r with
      | nil => exact absurd (.inl rfl) hg
      | cons c x =>
        have hc : isE c = false := by
          cases e : isE c with
          | false => rfl
          | true => exact absurd (.inr ⟨c, x, rfl, e⟩) hg
        have hc46 : c ≠ 46 := fun e => hdot (by rw [e]; rfl)
        rw [sct_bad hc, an_no]
        apply pn_bad
        left
        have h1 := takeWhile_pre (p := notE) w (c :: x) hm
        rw [← hs, h1.1]
        simp only [List.takeWhile_cons, notE_of hc, if_true]
        have h2 := takeWhile_pre (p := notP) w (c :: x.takeWhile notE) (fun c hc => digit_notP (hwd c hc))
        rw [h2.1]
        simp only [List.takeWhile_cons, notP_of hc46, if_true]
        refine not_all (c := c) ?_ (hh c x rfl)
        simp
end Go.Proofs.Qxb6604131aDoor
