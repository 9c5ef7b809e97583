import Derived.Test.Qxb6604131aDoorW3
import Derived.Test.Qxb6604131aDoorSpn
import Derived.Deep.DeepCutAuto
import Derived.Deep.CutBlock
import Derived.Deep.LoopGhost
import Derived.Laws.Rows
import Derived.Laws.Tables
import Derived.Laws.CopyOwn
namespace Go.Proofs.Qxb6604131aDoor
open Go.RowKit
set_option linter.unusedSimpArgs false
set_option linter.unusedVariables false

/-- A scan in memory. -/
def Scn (wr : World) (B : Nat) (ok neg : Bool) (a b : ByteArray) (m sg : Int) (d : ByteArray) : Prop := wr.heap[B]? = some (.cells #[.bool ok, .bool neg, .string a, .string b, .int .i64 m, .int .i64 sg, .string d] 30 (0, 0))
theorem Scn.c0 {wr : World} {B : Nat} {ok neg : Bool} {a b : ByteArray} {m sg : Int} {d : ByteArray} (h : Scn wr B ok neg a b m sg d) : wr.cell? ⟨B, 0, none⟩ = some (.bool ok) := cell_of_row _ _ _ _ _ _ h
theorem Scn.c1 {wr : World} {B : Nat} {ok neg : Bool} {a b : ByteArray} {m sg : Int} {d : ByteArray} (h : Scn wr B ok neg a b m sg d) : wr.cell? ⟨B, 1, none⟩ = some (.bool neg) := cell_of_row _ _ _ _ _ _ h
theorem Scn.c2 {wr : World} {B : Nat} {ok neg : Bool} {a b : ByteArray} {m sg : Int} {d : ByteArray} (h : Scn wr B ok neg a b m sg d) : wr.cell? ⟨B, 2, none⟩ = some (.string a) := cell_of_row _ _ _ _ _ _ h
theorem Scn.c3 {wr : World} {B : Nat} {ok neg : Bool} {a b : ByteArray} {m sg : Int} {d : ByteArray} (h : Scn wr B ok neg a b m sg d) : wr.cell? ⟨B, 3, none⟩ = some (.string b) := cell_of_row _ _ _ _ _ _ h
theorem Scn.c4 {wr : World} {B : Nat} {ok neg : Bool} {a b : ByteArray} {m sg : Int} {d : ByteArray} (h : Scn wr B ok neg a b m sg d) : wr.cell? ⟨B, 4, none⟩ = some (.int .i64 m) := cell_of_row _ _ _ _ _ _ h
theorem Scn.c5 {wr : World} {B : Nat} {ok neg : Bool} {a b : ByteArray} {m sg : Int} {d : ByteArray} (h : Scn wr B ok neg a b m sg d) : wr.cell? ⟨B, 5, none⟩ = some (.int .i64 sg) := cell_of_row _ _ _ _ _ _ h
theorem Scn.c6 {wr : World} {B : Nat} {ok neg : Bool} {a b : ByteArray} {m sg : Int} {d : ByteArray} (h : Scn wr B ok neg a b m sg d) : wr.cell? ⟨B, 6, none⟩ = some (.string d) := cell_of_row _ _ _ _ _ _ h
theorem Scn.fz {wr : World} {B : Nat} {ok neg : Bool} {a b : ByteArray} {m sg : Int} {d : ByteArray} (h : Scn wr B ok neg a b m sg d) (j : Nat) : wr.frozen? ⟨B, j, none⟩ = false := by simp [World.frozen?, show wr.heap[B]? = _ from h]
theorem Scn.later {wr : World} {B : Nat} {ok neg : Bool} {a b : ByteArray} {m sg : Int} {d : ByteArray} {wr' : World} {k : Nat} (h : Scn wr B ok neg a b m sg d) (hb : Below k wr wr') (hB : B < k) : Scn wr' B ok neg a b m sg d := by unfold Scn; rw [hb.block B hB]; exact h
theorem Scn.lt {wr : World} {B : Nat} {ok neg : Bool} {a b : ByteArray} {m sg : Int} {d : ByteArray} (h : Scn wr B ok neg a b m sg d) : B < wr.heap.size := (Array.getElem?_eq_some_iff.1 h).1
theorem Scn.set0 {wr : World} {B : Nat} {ok neg : Bool} {a b : ByteArray} {m sg : Int} {d : ByteArray} (h : Scn wr B ok neg a b m sg d) (x : Bool) : Scn (wr.setCell ⟨B, 0, none⟩ (.bool x)) B x neg a b m sg d := heap_setCell_same wr B 0 _ 30 _ h
theorem Scn.set1 {wr : World} {B : Nat} {ok neg : Bool} {a b : ByteArray} {m sg : Int} {d : ByteArray} (h : Scn wr B ok neg a b m sg d) (x : Bool) : Scn (wr.setCell ⟨B, 1, none⟩ (.bool x)) B ok x a b m sg d := heap_setCell_same wr B 1 _ 30 _ h
theorem Scn.set2 {wr : World} {B : Nat} {ok neg : Bool} {a b : ByteArray} {m sg : Int} {d : ByteArray} (h : Scn wr B ok neg a b m sg d) (x : ByteArray) : Scn (wr.setCell ⟨B, 2, none⟩ (.string x)) B ok neg x b m sg d := heap_setCell_same wr B 2 _ 30 _ h
theorem Scn.set3 {wr : World} {B : Nat} {ok neg : Bool} {a b : ByteArray} {m sg : Int} {d : ByteArray} (h : Scn wr B ok neg a b m sg d) (x : ByteArray) : Scn (wr.setCell ⟨B, 3, none⟩ (.string x)) B ok neg a x m sg d := heap_setCell_same wr B 3 _ 30 _ h
theorem Scn.set4 {wr : World} {B : Nat} {ok neg : Bool} {a b : ByteArray} {m sg : Int} {d : ByteArray} (h : Scn wr B ok neg a b m sg d) (x : Int) : Scn (wr.setCell ⟨B, 4, none⟩ (.int .i64 x)) B ok neg a b x sg d := heap_setCell_same wr B 4 _ 30 _ h
theorem Scn.set5 {wr : World} {B : Nat} {ok neg : Bool} {a b : ByteArray} {m sg : Int} {d : ByteArray} (h : Scn wr B ok neg a b m sg d) (x : Int) : Scn (wr.setCell ⟨B, 5, none⟩ (.int .i64 x)) B ok neg a b m x d := heap_setCell_same wr B 5 _ 30 _ h
theorem Scn.set6 {wr : World} {B : Nat} {ok neg : Bool} {a b : ByteArray} {m sg : Int} {d : ByteArray} (h : Scn wr B ok neg a b m sg d) (x : ByteArray) : Scn (wr.setCell ⟨B, 6, none⟩ (.string x)) B ok neg a b m sg x := heap_setCell_same wr B 6 _ 30 _ h
theorem Scn.other {wr : World} {B : Nat} {ok neg : Bool} {a b : ByteArray} {m sg : Int} {d : ByteArray} (h : Scn wr B ok neg a b m sg d) {k i : Nat} (hk : B ≠ k) (v : Value) : Scn (wr.setCell ⟨k, i, none⟩ v) B ok neg a b m sg d := (Below.heap_setCell wr ⟨k, i, none⟩ v B hk).trans h
theorem below_e {B i : Nat} {a w : World} (h : Below B a w) (v : Value) : Below B a (w.setCell ⟨B, i, none⟩ v) := h.setCell (Nat.le_refl _) _
theorem below_f {B i : Nat} {a w : World} (h : Below B a w) (v : Value) : Below B a (w.setCell ⟨B + 1, i, none⟩ v) := h.setCell (Nat.le_succ _) _
theorem sz30 : (Tryd.prog.info? 30).map (·.size) = some 7 := by kernel_rfl
theorem one7 (ok neg : Bool) (a b : ByteArray) (m sg : Int) (d : ByteArray) : (#[.bool ok, .bool neg, .string a, .string b, .int .i64 m, .int .i64 sg, .string d] : Array Value).all (·.oneCell') = true := by simp [Value.oneCell']
theorem ext_mid (s : ByteArray) (p j : Nat) : (s.extract p j).data.toList = (s.data.toList.take j).drop p := by rw [Lib.extract_data, List.drop_take]
theorem head_zero {s : ByteArray} (h : 0 < s.size) : s.data.toList.head? = some s[0] := by
  rw [List.head?_eq_getElem?]; exact get_list s 0 h
theorem head_drop {s : ByteArray} {k : Nat} (h : k < s.size) : (s.data.toList.drop k).head? = some s[k] := by
  rw [List.head?_drop]; exact get_list s k h
theorem head_over {s : ByteArray} {k : Nat} (h : ¬ k < s.size) : (s.data.toList.drop k).head? = none := by
  rw [drop_end s k (by omega)]; rfl
/-- A sign stands at place k. -/
def At (s : ByteArray) (k : Nat) : Prop := ∃ h : k < s.size, s[k].toNat = 43 ∨ s[k].toNat = 45
theorem isE_num (x : UInt8) : isE x = true ↔ x.toNat = 101 ∨ x.toNat = 69 := by
  unfold isE
  rw [Bool.or_eq_true, beq_iff_eq, beq_iff_eq]
  constructor
  · rintro (h | h)
    · left; rw [h]; rfl
    · right; rw [h]; rfl
  · rintro (h | h)
    · left; exact UInt8.toNat.inj h
    · right; exact UInt8.toNat.inj h
theorem u8_of {x : UInt8} {n : Nat} (h : x.toNat = n) (hn : n < 256) : x = UInt8.ofNat n := UInt8.toNat.inj (by rw [h]; simp; omega)
theorem sgn_at {s : ByteArray} {k : Nat} (h : k < s.size) (hs : s[k].toNat = 43 ∨ s[k].toNat = 45) : sgn (s.data.toList.drop k) = (((s[k].toNat : Int) == 45), s.data.toList.drop (k + 1)) := by
  unfold sgn
  rw [head_drop h, List.tail_drop]
  rcases hs with e | e
  · have e2 : s[k] = 43 := u8_of (n := 43) e (by decide)
    rw [e2]; rfl
  · have e2 : s[k] = 45 := u8_of (n := 45) e (by decide)
    rw [e2]; rfl
theorem sgn_not {s : ByteArray} {k : Nat} (h : ¬ At s k) : sgn (s.data.toList.drop k) = (false, s.data.toList.drop k) := by
  unfold sgn
  by_cases hk : k < s.size
  · rw [head_drop hk]
    rw [if_neg fun e => h ⟨hk, .inr (by rw [Option.some.inj e]; rfl)⟩, if_neg fun e => h ⟨hk, .inl (by rw [Option.some.inj e]; rfl)⟩]
  · rw [head_over hk]; rfl

/-- The scan's answer. -/
def ScA (S : Sc) (w : World) (e : Ending) (w' : World) : Prop := ∃ (ok neg : Bool) (a b : ByteArray) (m : Nat) (sg : Int) (d : ByteArray), e = .returned (.agg #[.bool ok, .bool neg, .string a, .string b, .int .i64 m, .int .i64 sg, .string d]) ∧ S = ⟨ok, neg, a.data.toList, b.data.toList, m, sg, d.data.toList⟩ ∧ Below w.heap.size w w'
/-- A test that holds exactly where P does. -/
def Tst (P : Prop) (v : Value) : Prop := ∃ t : Bool, v = .bool t ∧ (t = true ↔ P)
def K1 (s : ByteArray) (w : World) (v : Value) (wx : World) : Prop := ∃ (p : Nat) (neg : Bool), v = .int .i64 p ∧ p ≤ s.size ∧ sgn s.data.toList = (neg, s.data.toList.drop p) ∧ Scn wx w.heap.size false false ⟨#[]⟩ ⟨#[]⟩ 0 0 ⟨#[]⟩ ∧ Scn wx (w.heap.size + 1) false neg ⟨#[]⟩ ⟨#[]⟩ 0 0 ⟨#[]⟩ ∧ Below w.heap.size w wx
def K2 (s : ByteArray) (p : Nat) (v : Value) : Prop := ∃ j : Nat, v = .int .i64 j ∧ j ≤ s.size ∧ Spd s.data.toList p j
def K4 (s : ByteArray) (w : World) (neg : Bool) (p : Nat) (v : Value) (wx : World) : Prop := ∃ (q : Nat) (a b : ByteArray), v = .int .i64 q ∧ q ≤ s.size ∧ p ≤ q ∧ SC neg (s.data.toList.drop p) = SCt neg a.data.toList b.data.toList (q - p) (s.data.toList.drop q) ∧ Scn wx w.heap.size false false ⟨#[]⟩ ⟨#[]⟩ 0 0 ⟨#[]⟩ ∧ Scn wx (w.heap.size + 1) false neg a b 0 0 ⟨#[]⟩ ∧ Below w.heap.size w wx
def K6 (s : ByteArray) (w : World) (neg : Bool) (a b : ByteArray) (m : Int) (k : Nat) (v : Value) (wx : World) : Prop := ∃ (q : Nat) (sg : Bool), v = .int .i64 q ∧ q ≤ s.size ∧ sgn (s.data.toList.drop k) = (sg, s.data.toList.drop q) ∧ Scn wx w.heap.size false false ⟨#[]⟩ ⟨#[]⟩ 0 0 ⟨#[]⟩ ∧ Scn wx (w.heap.size + 1) false neg a b m (if sg = true then -1 else 1) ⟨#[]⟩ ∧ Below w.heap.size w wx
end Go.Proofs.Qxb6604131aDoor
