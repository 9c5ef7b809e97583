import Derived.Lib.IndexAny
import Derived.Lib.SlTrimSet
namespace Go.Proofs.Qxb6604131aDoor
set_option linter.unusedSimpArgs false
set_option linter.unusedVariables false

def isD (c : UInt8) : Bool := decide (48 ≤ c.toNat) && decide (c.toNat ≤ 57)
def isE (c : UInt8) : Bool := c == 101 || c == 69
def isZ (c : UInt8) : Bool := c == 48
def notE (c : UInt8) : Bool := !isE c
def notP (c : UInt8) : Bool := !(c == 46)
/-- An optional sign, and what stands behind it. -/
def sgn (t : List UInt8) : Bool × List UInt8 := if t.head? = some 45 then (true, t.tail) else if t.head? = some 43 then (false, t.tail) else (false, t)
def zeros (n : Nat) : List UInt8 := List.replicate n 48
/-- The number that a digit string tells, no greater than limit. -/
def clampA (limit : Nat) : List UInt8 → Nat → Nat
  | [], n => n
  | c :: l, n => clampA limit l (min (n * 10 + (c.toNat - 48)) limit)
def clampB (limit : Nat) : List UInt8 → Nat → Nat
  | [], n => n
  | c :: l, n => clampB limit l (if n ≤ limit then n * 10 + (c.toNat - 48) else n)
/-- parseExponent. -/
def PE (x : List UInt8) (limit : Nat) : Option Int :=
  if (sgn x).2 = [] ∨ (sgn x).2.all isD = false then none else some ((if (sgn x).1 = true then -1 else 1) * (clampA limit (sgn x).2 0 : Int))
/-- shift. -/
def SH (w f : List UInt8) (n : Int) : List UInt8 × List UInt8 :=
  let d := (w ++ f).dropWhile isZ
  if d = [] then (w, f) else
    let p : Int := (w.length : Int) + n - (((w ++ f).length : Int) - (d.length : Int))
    if (d.length : Int) ≤ p then (d ++ zeros (p - d.length).toNat, []) else if 0 < p then (d.take p.toNat, d.drop p.toNat) else ([], zeros (-p).toNat ++ d)
/-- normal. -/
def NO (neg : Bool) (w f : List UInt8) : Bool := if w = [] ∧ f.all isZ = true then false else neg
/-- parseNumber, behind its sign. -/
def PN (neg : Bool) (t : List UInt8) : Bool × List UInt8 × List UInt8 × Bool :=
  let m := t.takeWhile notE
  let w := m.takeWhile notP
  let f := (m.dropWhile notP).drop 1
  if w ++ f = [] ∨ w.all isD = false ∨ f.all isD = false then (false, [], [], false) else
    let w1 := w.dropWhile isZ
    match t.dropWhile notE with
    | [] => (NO neg w1 f, w1, f, true)
    | _ :: x => match PE x (m.length + 1500) with
      | none => (false, [], [], false)
      | some n => (NO neg (SH w1 f n).1 (SH w1 f n).2, (SH w1 f n).1, (SH w1 f n).2, true)
/-- What the scan answers. -/
structure Sc where
  ok : Bool
  neg : Bool
  whole : List UInt8
  frac : List UInt8
  mant : Nat
  sign : Int
  digs : List UInt8
def noSc : Sc := ⟨false, false, [], [], 0, 0, []⟩
/-- The scan's tail: behind the digits and the point. -/
def SCt (neg : Bool) (w f : List UInt8) (mant : Nat) (r : List UInt8) : Sc :=
  if w = [] ∧ f = [] then noSc else
  match r with
  | [] => ⟨true, neg, w, f, mant, 0, []⟩
  | c :: x => if isE c = false then noSc else
    if (sgn x).2 = [] ∨ (sgn x).2.all isD = false then noSc else ⟨true, neg, w, f, mant, if (sgn x).1 = true then -1 else 1, (sgn x).2⟩
/-- pv1ScanNumber, behind its sign. -/
def SC (neg : Bool) (t : List UInt8) : Sc :=
  let w := t.takeWhile isD
  let r := t.dropWhile isD
  if r.head? = some 46 then SCt neg w (r.tail.takeWhile isD) (w.length + 1 + (r.tail.takeWhile isD).length) (r.tail.dropWhile isD) else SCt neg w [] w.length r

theorem digit_notE {c : UInt8} (h : isD c = true) : notE c = true := by
  unfold isD at h; unfold notE isE
  simp only [Bool.and_eq_true, decide_eq_true_eq] at h
  have h1 : (c == 101) = false := beq_eq_false_iff_ne.2 fun e => by rw [e] at h; exact absurd h.2 (by decide)
  have h2 : (c == 69) = false := beq_eq_false_iff_ne.2 fun e => by rw [e] at h; exact absurd h.2 (by decide)
  rw [h1, h2]; rfl
theorem digit_notP {c : UInt8} (h : isD c = true) : notP c = true := by
  unfold isD at h; unfold notP
  simp only [Bool.and_eq_true, decide_eq_true_eq] at h
  have h1 : (c == 46) = false := beq_eq_false_iff_ne.2 fun e => by rw [e] at h; exact absurd h.1 (by decide)
  rw [h1]; rfl
theorem takeWhile_pre {p : UInt8 → Bool} : ∀ (a : List UInt8) (b : List UInt8), (∀ c ∈ a, p c = true) → (a ++ b).takeWhile p = a ++ b.takeWhile p ∧ (a ++ b).dropWhile p = b.dropWhile p
  | [], b, _ => ⟨rfl, rfl⟩
  | c :: a, b, h => by
    have ih := takeWhile_pre a b (fun x hx => h x (List.mem_cons_of_mem _ hx))
    have hc := h c (List.mem_cons_self ..)
    simp only [List.cons_append, List.takeWhile_cons, List.dropWhile_cons, hc, if_true, ih.1, ih.2]
    exact ⟨trivial, trivial⟩
theorem all_takeWhile (p : UInt8 → Bool) : ∀ l : List UInt8, ∀ c ∈ l.takeWhile p, p c = true
  | [], c, h => by simp at h
  | x :: l, c, h => by
    by_cases hx : p x = true
    · simp only [List.takeWhile_cons, hx, if_true, List.mem_cons] at h
      rcases h with rfl | h
      · exact hx
      · exact all_takeWhile p l c h
    · simp only [List.takeWhile_cons, hx] at h
      simp at h
theorem head_dropWhile (p : UInt8 → Bool) : ∀ l : List UInt8, ∀ c r, l.dropWhile p = c :: r → p c = false
  | [], c, r, h => by simp at h
  | x :: l, c, r, h => by
    by_cases hx : p x = true
    · simp only [List.dropWhile_cons, hx, if_true] at h
      exact head_dropWhile p l c r h
    · simp only [List.dropWhile_cons, hx] at h
      simp only [Bool.false_eq_true, if_false, List.cons.injEq] at h
      rw [← h.1]
      simpa using hx
theorem all_of {p : UInt8 → Bool} {l : List UInt8} (h : ∀ c ∈ l, p c = true) : l.all p = true := List.all_eq_true.2 h
theorem not_all {p : UInt8 → Bool} {l : List UInt8} {c : UInt8} (hc : c ∈ l) (h : p c = false) : l.all p = false := by
  cases e : l.all p with
  | false => rfl
  | true => rw [List.all_eq_true.1 e c hc] at h; cases h
end Go.Proofs.Qxb6604131aDoor
