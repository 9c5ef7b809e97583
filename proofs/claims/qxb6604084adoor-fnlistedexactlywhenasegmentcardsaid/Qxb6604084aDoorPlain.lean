import Derived.Lib.Strings
import Derived.Lib.Bytealg
import Derived.Lib.IndexLaws
namespace Go.Proofs.Qxb6604084aDoor
set_option linter.unusedSimpArgs false
set_option linter.unusedVariables false

/-- The segments between the commas. -/
def segs : List UInt8 → List (List UInt8)
  | [] => [[]]
  | c :: r => if c = 44 then [] :: segs r else (c :: (segs r).headD []) :: (segs r).tail
theorem segs_ne (l : List UInt8) : segs l ≠ [] := by
  cases l with
  | nil => simp [segs]
  | cons c r => simp only [segs]; split <;> simp
theorem segs_plain : ∀ (h : List UInt8), (44 : UInt8) ∉ h → segs h = [h]
  | [], _ => rfl
  | c :: r, hn => by
    simp only [List.mem_cons, not_or] at hn
    simp only [segs]
    rw [if_neg (Ne.symm hn.1), segs_plain r hn.2]; rfl
theorem segs_cut : ∀ (h r : List UInt8), (44 : UInt8) ∉ h → segs (h ++ 44 :: r) = h :: segs r
  | [], r, _ => by simp [segs]
  | c :: t, r, hn => by
    simp only [List.mem_cons, not_or] at hn
    simp only [List.cons_append, segs]
    rw [if_neg (Ne.symm hn.1), segs_cut t r hn.2]; rfl
/-- The first comma. -/
theorem cut_first : ∀ (l : List UInt8), (44 : UInt8) ∈ l → ∃ h r, l = h ++ 44 :: r ∧ (44 : UInt8) ∉ h
  | [], h => by simp at h
  | c :: t, h => by
    by_cases hc : c = 44
    · exact ⟨[], t, by simp [hc], by simp⟩
    · obtain ⟨h', r, e, hn⟩ := cut_first t (by simp only [List.mem_cons] at h; exact h.resolve_left (Ne.symm hc))
      exact ⟨c :: h', r, by simp [e], by simp only [List.mem_cons, not_or]; exact ⟨Ne.symm hc, hn⟩⟩
theorem cut_unique {h r p y : List UInt8} (hn : (44 : UInt8) ∉ h) (e : h ++ 44 :: r = p ++ 44 :: y) : (p = h ∧ r = y) ∨ ∃ p', p = h ++ 44 :: p' ∧ r = p' ++ 44 :: y := by
  rcases List.append_eq_append_iff.1 e with ⟨a, e1, e2⟩ | ⟨a, e1, e2⟩
  · cases a with
    | nil => simp only [List.nil_append, List.cons.injEq, true_and] at e2; exact .inl ⟨by simp [e1], e2⟩
    | cons c t =>
      simp only [List.cons_append, List.cons.injEq] at e2
      exact .inr ⟨t, by rw [e1, e2.1], e2.2⟩
  · cases a with
    | nil => simp only [List.nil_append, List.cons.injEq, true_and] at e2; exact .inl ⟨by simp [e1], e2.symm⟩
    | cons c t =>
      simp only [List.cons_append, List.cons.injEq] at e2
      exact absurd (by rw [e1, ← e2.1]; simp) hn
/-- The closed form. -/
def want (x l : List UInt8) : Prop := (44 : UInt8) ∉ x ∧ (x = l ∨ (x ++ [44]) <+: l ∨ ([44] ++ x) <:+ l ∨ (([44] ++ x) ++ [44]) <:+: l)
theorem segs_iff : ∀ (n : Nat) (l : List UInt8), l.length ≤ n → ∀ x, x ∈ segs l ↔ want x l
  | n, l, hl, x => by
    by_cases hc : (44 : UInt8) ∈ l
    · obtain ⟨h, r, rfl, hn⟩ := cut_first l hc
      cases n with
      | zero => simp at hl
      | succ n =>
        have ih := segs_iff n r (by simp at hl; omega) x
        rw [segs_cut h r hn, List.mem_cons, ih]
        constructor
        · rintro (rfl | ⟨hx, ho⟩)
          · exact ⟨hn, .inr (.inl ⟨r, by simp⟩)⟩
          · refine ⟨hx, ?_⟩
            rcases ho with rfl | ⟨t, e⟩ | ⟨t, e⟩ | ⟨t, u, e⟩
            · exact .inr (.inr (.inl ⟨h, by simp⟩))
            · exact .inr (.inr (.inr ⟨h, t, by rw [← e]; simp⟩))
            · exact .inr (.inr (.inl ⟨h ++ 44 :: t, by rw [← e]; simp⟩))
            · exact .inr (.inr (.inr ⟨h ++ 44 :: t, u, by rw [← e]; simp⟩))
        · rintro ⟨hx, ho⟩
          rcases ho with rfl | ⟨t, e⟩ | ⟨t, e⟩ | ⟨t, u, e⟩
          · exact absurd hc hx
          · have e' : x ++ 44 :: t = h ++ 44 :: r := by rw [← e]; simp
            rcases cut_unique hx e' with ⟨e1, _⟩ | ⟨p', e1, _⟩
            · exact .inl e1.symm
            · exact absurd (by rw [e1]; simp) hn
          · have e' : h ++ 44 :: r = t ++ 44 :: x := by rw [← e]; simp
            rcases cut_unique hn e' with ⟨_, e1⟩ | ⟨p', _, e1⟩
            · exact .inr ⟨hx, .inl e1.symm⟩
            · exact .inr ⟨hx, .inr (.inr (.inl ⟨p', by rw [e1]; simp⟩))⟩
          · have e' : h ++ 44 :: r = t ++ 44 :: (x ++ 44 :: u) := by rw [← e]; simp
            rcases cut_unique hn e' with ⟨_, e1⟩ | ⟨p', _, e1⟩
            · exact .inr ⟨hx, .inr (.inl ⟨u, by rw [e1]; simp⟩)⟩
            · exact .inr ⟨hx, .inr (.inr (.inr ⟨p', u, by rw [e1]; simp⟩))⟩
    · rw [segs_plain l hc, List.mem_singleton]
      constructor
      · rintro rfl; exact ⟨hc, .inl rfl⟩
      · rintro ⟨_, ho⟩
        rcases ho with e | ⟨t, e⟩ | ⟨t, e⟩ | ⟨t, u, e⟩
        · exact e
        · exact absurd (by rw [← e]; simp) hc
        · exact absurd (by rw [← e]; simp) hc
        · exact absurd (by rw [← e]; simp) hc

/-! ### one step of the splitting -/
theorem seg_none {l : List UInt8} (h : (44 : UInt8) ∉ l) : segs l = [l] := segs_plain l h
theorem seg_step {l : List UInt8} {k : Nat} (hk : k < l.length) (h0 : ∀ j b, j < k → l[j]? = some b → b ≠ 44) (h1 : l[k]? = some 44) : segs l = l.take k :: segs (l.drop (k + 1)) := by
  have e : l = l.take k ++ 44 :: l.drop (k + 1) := by
    have h2 : l[k] = 44 := by rw [List.getElem?_eq_getElem hk] at h1; exact Option.some.inj h1
    conv => lhs; rw [← List.take_append_drop k l, List.drop_eq_getElem_cons hk, h2]
  have hn : (44 : UInt8) ∉ l.take k := by
    intro hm
    obtain ⟨j, hj, e⟩ := List.mem_iff_getElem.1 hm
    rw [List.length_take] at hj
    refine h0 j 44 (by omega) ?_ rfl
    rw [List.getElem_take] at e
    rw [List.getElem?_eq_getElem (by omega), e]
  conv => lhs; rw [e]
  exact segs_cut _ _ hn
theorem idx_cases (l : List UInt8) : (Lib.indexByte l 44 = -1 ∧ segs l = [l]) ∨ ∃ o : Nat, Lib.indexByte l 44 = o ∧ o < l.length ∧ segs l = l.take o :: segs (l.drop (o + 1)) := by
  by_cases h : Lib.indexByte l 44 = -1
  · refine .inl ⟨h, seg_none fun hm => ?_⟩
    obtain ⟨j, hj, e⟩ := List.mem_iff_getElem.1 hm
    exact Lib.indexByte_none h j (by rw [List.getElem?_eq_getElem hj, e])
  · have hge := Lib.indexByte_ge l 44
    obtain ⟨o, ho⟩ : ∃ o : Nat, Lib.indexByte l 44 = o := ⟨(Lib.indexByte l 44).toNat, by omega⟩
    obtain ⟨h1, h2⟩ := Lib.indexByte_some ho
    have hk : o < l.length := by
      rcases Nat.lt_or_ge o l.length with h3 | h3
      · exact h3
      · rw [List.getElem?_eq_none h3] at h1; cases h1
    exact .inr ⟨o, ho, hk, seg_step hk (fun j b hj e hb => h2 j hj (by rw [e, hb])) h1⟩
end Go.Proofs.Qxb6604084aDoor
