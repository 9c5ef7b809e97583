import Derived.Test.Qxb6604131aDoorW1
namespace Go.Proofs.Qxb6604131aDoor
open Go.RowKit
set_option linter.unusedSimpArgs false
set_option linter.unusedVariables false

/-- The first n cells of block B are f's values, and may be written. -/
def Row (w : World) (B n : Nat) (f : Nat → Value) : Prop := ∀ j, j < n → w.cell? ⟨B, j, none⟩ = some (f j) ∧ w.frozen? ⟨B, j, none⟩ = false
theorem Row.congr {w : World} {B n : Nat} {f g : Nat → Value} (h : Row w B n f) (e : ∀ j, j < n → f j = g j) : Row w B n g := fun j hj => by rw [← e j hj]; exact h j hj
theorem Row.set {w : World} {B n : Nat} {f : Nat → Value} (h : Row w B n f) {i : Nat} (hi : i < n) (v : Value) : Row (w.setCell ⟨B, i, none⟩ v) B n (fun j => if j = i then v else f j) := by
  intro j hj
  refine ⟨?_, by rw [World.frozen?_setCell]; exact (h j hj).2⟩
  by_cases e : j = i
  · subst e
    rw [World.cell?_setCell_same _ _ _ (h j hj).1]
    show some v = some (if j = j then v else f j)
    rw [if_pos rfl]
  · rw [World.cell?_setCell_other _ _ _ _ (by intro h; injection h with _ h2; exact e h2.symm)]
    show _ = some (if j = i then v else f j)
    rw [if_neg e]
    exact (h j hj).1
theorem row_owned {w : World} {base : Nat} {e : TypeId} {g n cap : Nat} {z : Value} (h : w.ownsRow base e 1 (.slice (some ⟨g, 0, none⟩) n cap) n (madeCells #[z] (n * 1)).toList) : Row w g n (fun _ => z) := by
  intro j hj
  refine ⟨?_, h.frozenAt j⟩
  rw [h.cellAt j (by omega), toList_madeCells_one]
  simp [hj]
theorem info5 : (Tryd.prog.info? 5).map (fun i => (i.zero, i.size, i.bytes)) = some (some (.int .u8 0), 1, 1) := by kernel_rfl

set_option maxHeartbeats 1000000 in
theorem zeros_any (n : Nat) (w : World) (hn : n ≤ 1048576) :
    Calls Tryd.prog 16 #[.int .i64 n] w fun e w' => ∃ r : ByteArray, e = .returned (.string r) ∧ r.data.toList = zeros n ∧ Below w.heap.size w w' := by
  by_cases h0 : n = 0
  · have h0I : (n : Int) ≤ 0 := by omega
    have HN : Hid (n = 0) := h0
    clear h0
    go_enter Tryd.func16, Tryd.ntmps16
    go_wp2
    go_ret
    exact ⟨⟨#[]⟩, rfl, by rw [HN.out]; rfl, Below.refl _ _⟩
  · have h0I : ¬ (n : Int) ≤ 0 := by omega
    obtain ⟨i5, i5a, i5b, i5c, i5d⟩ := info_parts info5
    go_enter Tryd.func16, Tryd.ntmps16
    go_wp2_with (at_make; refine wpList_make_full _ rfl (.tmp 7) (.tmp 7) 38 rfl w.heap.size 5 i5 (.int .u8 0) 1 Tryd.underlying38 i5a i5b i5c .i64 .i64 _ _ n rfl rfl rfl rfl (by rw [i5d]; omega) (by unfold maxLen; omega) (Nat.le_refl _) ?_; intro w2 hown2 hgrow2)
    have HR2 : Hid (Row w2 w.heap.size n (fun k => .int .u8 0)) := row_owned hown2
    have HB2 : Hid (Below w.heap.size w w2) := (Below.refl _ w).grown hgrow2 (Nat.le_refl _) (by intro k hk; cases hk)
    clear hown2 hgrow2
    go_loopw [4] (fun x wr => ∃ i : Nat, x = .int .i64 i ∧ i ≤ n ∧ Row wr w.heap.size n (fun j => .int .u8 (if j < i then 48 else 0)) ∧ Below w.heap.size w wr) (fun x _ => n - (intOf x).toNat)
    case atStart => exact ⟨0, rfl, Nat.zero_le _, HR2.out.congr fun j hj => by rw [if_neg (by omega)], HB2.out⟩
    case round =>
      obtain ⟨i, rfl, hi, hrow, hbl⟩ := hrel
      have HROW : Hid (Row wr w.heap.size n (fun j => .int .u8 (if j < i then 48 else 0))) := hrow
      have HBL : Hid (Below w.heap.size w wr) := hbl
      clear hrow hbl
      by_cases h1 : i < n
      · have h1I : (i : Int) < (n : Int) := by omega
        obtain ⟨cv, hcv⟩ : ∃ cv, wr.cell? ⟨w.heap.size, i, none⟩ = some cv := ⟨_, (HROW.out i h1).1⟩
        have hcf : wr.frozen? ⟨w.heap.size, i, none⟩ = false := (HROW.out i h1).2
        go_wp2_with fail
        refine ⟨⟨i + 1, by go_num, by omega, (HROW.out.set h1 (.int .u8 48)).congr fun j hj => ?_, HBL.out.setCell (Nat.le_refl _) _⟩, by simp [intOf]; omega⟩
        show (if j = i then Value.int .u8 48 else Value.int .u8 (if j < i then 48 else 0)) = Value.int .u8 (if j < i + 1 then 48 else 0)
        by_cases e : j = i
        · rw [if_pos e, if_pos (by omega)]
        · rw [if_neg e]
          by_cases e2 : j < i
          · rw [if_pos e2, if_pos (by omega)]
          · rw [if_neg e2, if_neg (by omega)]
      · have h1I : ¬ (i : Int) < (n : Int) := by omega
        have hcv := run_convert_bytes_back (P := Tryd.prog) wr 38 9 5 ⟨w.heap.size, 0, none⟩ n (zeros n) Tryd.underlying38 Tryd.underlying5 Tryd.underlying9 (fun j hj => by
          have hj' : j < n := by simpa [zeros] using hj
          have hadd : (⟨w.heap.size, 0, none⟩ : Addr).add j = ⟨w.heap.size, j, none⟩ := by unfold Addr.add; split <;> simp_all
          rw [hadd, (HROW.out j hj').1]
          show some (Value.int .u8 (if j < i then 48 else 0)) = _
          rw [if_pos (by omega)]
          simp [zeros])
        have hzl : (zeros n).length = n := by simp [zeros]
        rw [hzl] at hcv
        clear hzl
        obtain ⟨r, hr⟩ : ∃ r : ByteArray, (⟨(zeros n).toArray⟩ : ByteArray) = r := ⟨_, rfl⟩
        rw [hr] at hcv
        have HR : Hid (r.data.toList = zeros n) := by show r.data.toList = zeros n; rw [← hr]
        clear hr
        go_wp2_with fail
        go_ret
        exact ⟨r, rfl, HR.out, HBL.out⟩
def digits : List UInt8 := [48, 49, 50, 51, 52, 53, 54, 55, 56, 57]
set_option maxRecDepth 100000 in
theorem digits_isD (c : UInt8) : digits.contains c = isD c := by
  have h : ∀ n : Fin 256, digits.contains (UInt8.ofNat n.1) = isD (UInt8.ofNat n.1) := by decide
  have := h ⟨c.toNat, c.toNat_lt⟩
  simpa using this
theorem trim_all {p : UInt8 → Bool} (l cs : List UInt8) (hp : ∀ c, cs.contains c = p c) : Lib.trimS l cs = [] ↔ l.all p = true := by
  have e : (fun c => cs.contains c) = p := funext hp
  have key : ∀ l : List UInt8, l.dropWhile p = [] ↔ l.all p = true := by
    intro l
    induction l with
    | nil => simp
    | cons c l ih =>
      by_cases hc : p c = true
      · simp [List.dropWhile_cons, hc, ih]
      · simp [List.dropWhile_cons, hc]
  unfold Lib.trimS Lib.trimLeftS Lib.trimRightS
  rw [e, key]
  constructor
  · intro h
    rw [List.all_reverse] at h
    have h2 : l.reverse.dropWhile p = [] := by
      cases h3 : l.reverse.dropWhile p with
      | nil => rfl
      | cons c r =>
        rw [h3] at h
        simp only [List.all_cons, Bool.and_eq_true] at h
        have := head_dropWhile p _ c r h3
        rw [this] at h
        cases h.1
    have h4 := (key _).1 h2
    rwa [List.all_reverse] at h4
  · intro h
    have h2 := (key l.reverse).2 (by rw [List.all_reverse]; exact h)
    rw [h2]; rfl
theorem alldig_any (s : ByteArray) (w : World) (hs : s.size ≤ 1048576) :
    Calls Tryd.prog 29 #[.string s] w fun e w' => e = .returned (.bool (s.data.toList.all isD)) ∧ Below w.heap.size w w' := by
  have c := Tryd.strings_Trim_laid s ⟨#[48, 49, 50, 51, 52, 53, 54, 55, 56, 57]⟩ w (by omega) (by decide) (ascii_of_all (by decide))
  have ht := trim_all s.data.toList digits digits_isD
  obtain ⟨r, hr⟩ : ∃ r : ByteArray, (⟨(Lib.trimS s.data.toList (⟨#[48, 49, 50, 51, 52, 53, 54, 55, 56, 57]⟩ : ByteArray).data.toList).toArray⟩ : ByteArray) = r := ⟨_, rfl⟩
  have hrl : r.data.toList = Lib.trimS s.data.toList digits := by rw [← hr]; rfl
  rw [hr] at c
  rw [← hrl] at ht
  clear hr hrl
  obtain ⟨b, hb⟩ : ∃ b, s.data.toList.all isD = b := ⟨_, rfl⟩
  rw [hb] at ht ⊢
  clear hb
  have k : r.toList.isEmpty = b := by
    cases b with
    | true => exact toList_nil.2 (ht.2 rfl)
    | false => exact toList_not fun h => by have := ht.1 h; cases this
  clear ht
  go_enter Tryd.func29, Tryd.ntmps29
  go_wp2_with fail
  refine c.mono ?_
  rintro e w1 ⟨rfl, hb⟩
  have HB : Hid (Below w.heap.size w w1) := hb
  clear hb c
  go_wp2_with fail
  go_ret
  exact ⟨rfl, HB.out⟩
end Go.Proofs.Qxb6604131aDoor
