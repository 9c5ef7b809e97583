import Derived.Test.Qxb6604131aDoorLaw2
namespace Go.Proofs.Qxb6604131aDoor
set_option linter.unusedSimpArgs false
set_option linter.unusedVariables false

/-- The bytes of l from p up to j are digits. -/
def Spn (l : List UInt8) (p j : Nat) : Prop := p ≤ j ∧ (l.drop p).takeWhile isD = (l.take j).drop p ++ (l.drop j).takeWhile isD ∧ (l.drop p).dropWhile isD = (l.drop j).dropWhile isD
/-- They are all the digits there. -/
def Spd (l : List UInt8) (p j : Nat) : Prop := p ≤ j ∧ (l.drop p).takeWhile isD = (l.take j).drop p ∧ (l.drop p).dropWhile isD = l.drop j
theorem drop_at {l : List UInt8} {j : Nat} {c : UInt8} (hc : l[j]? = some c) : l.drop j = c :: l.drop (j + 1) := by
  have hlt : j < l.length := (List.getElem?_eq_some_iff.1 hc).1
  rw [List.drop_eq_getElem_cons hlt, (List.getElem?_eq_some_iff.1 hc).2]
theorem Spn.start (l : List UInt8) (p : Nat) : Spn l p p := ⟨Nat.le_refl _, by rw [List.drop_take]; simp, rfl⟩
theorem Spn.step {l : List UInt8} {p j : Nat} {c : UInt8} (h : Spn l p j) (hc : l[j]? = some c) (hd : isD c = true) : Spn l p (j + 1) := by
  obtain ⟨h1, h2, h3⟩ := h
  have hlt : j < l.length := (List.getElem?_eq_some_iff.1 hc).1
  have hdr := drop_at hc
  refine ⟨by omega, ?_, ?_⟩
  · rw [h2, hdr, List.takeWhile_cons, if_pos hd]
    have : l.take (j + 1) = l.take j ++ [c] := by rw [List.take_add_one, hc]; rfl
    rw [this, List.drop_append_of_le_length (by simp; omega), List.append_assoc]
    rfl
  · rw [h3, hdr, List.dropWhile_cons, if_pos hd]
theorem Spn.over {l : List UInt8} {p j : Nat} (h : Spn l p j) (he : l.length ≤ j) : Spd l p j := by
  obtain ⟨h1, h2, h3⟩ := h
  have hd : l.drop j = [] := List.drop_eq_nil_of_le he
  refine ⟨h1, ?_, ?_⟩
  · rw [h2, hd]; simp
  · rw [h3, hd]; rfl
theorem Spn.stop {l : List UInt8} {p j : Nat} {c : UInt8} (h : Spn l p j) (hc : l[j]? = some c) (hn : isD c = false) : Spd l p j := by
  obtain ⟨h1, h2, h3⟩ := h
  have hd := drop_at hc
  refine ⟨h1, ?_, ?_⟩
  · rw [h2, hd, List.takeWhile_cons, hn]; simp
  · rw [h3, hd, List.dropWhile_cons, hn]; simp
theorem sc_point {l : List UInt8} {neg : Bool} {p j q : Nat} (h : Spd l p j) (hp : l[j]? = some 46) (h2 : Spd l (j + 1) q) (hq : q ≤ l.length) : SC neg (l.drop p) = SCt neg ((l.take j).drop p) ((l.take q).drop (j + 1)) (q - p) (l.drop q) := by
  obtain ⟨a1, a2, a3⟩ := h
  obtain ⟨b1, b2, b3⟩ := h2
  have hd := drop_at hp
  unfold SC
  simp only [a2, a3, hd, List.head?_cons, List.tail_cons, b2, b3, if_true]
  have e : ((l.take j).drop p).length + 1 + ((l.take q).drop (j + 1)).length = q - p := by simp; omega
  rw [e]
theorem sc_plain {l : List UInt8} {neg : Bool} {p j : Nat} (h : Spd l p j) (hp : ¬ l[j]? = some 46) (hq : j ≤ l.length) : SC neg (l.drop p) = SCt neg ((l.take j).drop p) [] (j - p) (l.drop j) := by
  obtain ⟨a1, a2, a3⟩ := h
  have hd : ¬ (l.drop j).head? = some 46 := by rw [List.head?_drop]; exact hp
  unfold SC
  simp only [a2, a3]
  rw [if_neg hd]
  have e : ((l.take j).drop p).length = j - p := by simp; omega
  rw [e]
theorem sct_none {neg : Bool} {a b : List UInt8} {m : Nat} {r : List UInt8} (ha : a = []) (hb : b = []) : SCt neg a b m r = noSc := by
  unfold SCt; rw [if_pos ⟨ha, hb⟩]
theorem sct_end {neg : Bool} {a b : List UInt8} {m : Nat} (h : ¬ (a = [] ∧ b = [])) : SCt neg a b m [] = ⟨true, neg, a, b, m, 0, []⟩ := by
  unfold SCt; rw [if_neg h]
theorem sct_not {neg : Bool} {a b : List UInt8} {m : Nat} {c : UInt8} {x : List UInt8} (h : ¬ (a = [] ∧ b = [])) (hc : isE c = false) : SCt neg a b m (c :: x) = noSc := by
  unfold SCt; rw [if_neg h]; simp only; rw [if_pos hc]
theorem sct_exp {neg : Bool} {a b : List UInt8} {m : Nat} {c : UInt8} {x : List UInt8} (h : ¬ (a = [] ∧ b = [])) (hc : isE c = true) : SCt neg a b m (c :: x) = if (sgn x).2 = [] ∨ (sgn x).2.all isD = false then noSc else ⟨true, neg, a, b, m, if (sgn x).1 = true then -1 else 1, (sgn x).2⟩ := by
  unfold SCt; rw [if_neg h]; simp only; rw [if_neg (by rw [hc]; decide)]
theorem all_split (l : List UInt8) : l.takeWhile isD ++ l.dropWhile isD = l := List.takeWhile_append_dropWhile
theorem exp_bad {l : List UInt8} {p j : Nat} (h : Spd l p j) (hj : j ≤ l.length) (he : j = p ∨ ¬ j = l.length) : l.drop p = [] ∨ (l.drop p).all isD = false := by
  obtain ⟨h1, h2, h3⟩ := h
  by_cases hjl : j = l.length
  · have hjp : j = p := by omega
    left
    exact List.drop_eq_nil_of_le (by omega)
  · right
    have hlt : j < l.length := by omega
    have hc : l[j]? = some l[j] := List.getElem?_eq_getElem hlt
    have hn : isD l[j] = false := head_dropWhile isD (l.drop p) l[j] (l.drop (j + 1)) (by rw [h3, drop_at hc])
    refine not_all (c := l[j]) ?_ hn
    rw [← all_split (l.drop p), h3]
    rw [drop_at hc]
    exact List.mem_append_right _ (List.mem_cons_self ..)
theorem exp_good {l : List UInt8} {p j : Nat} (h : Spd l p j) (he : ¬ j = p) (hj : j = l.length) : ¬ (l.drop p = [] ∨ (l.drop p).all isD = false) := by
  obtain ⟨h1, h2, h3⟩ := h
  have h4 := all_split (l.drop p)
  rw [h3, hj, List.drop_length, List.append_nil] at h4
  rintro (h | h)
  · have := congrArg List.length h
    simp at this
    omega
  · rw [all_of (p := isD) (l := l.drop p) (by rw [← h4]; exact all_takeWhile isD _)] at h
    cases h
end Go.Proofs.Qxb6604131aDoor
