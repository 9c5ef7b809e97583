import Derived.Test.Qxb6604104aDoorW4
import Derived.OwnWalk
import Derived.Maps.AppendAt
import Derived.Deep.AppendLies
namespace Go.Proofs.Qxb6604104aDoor
open Go.RowKit
set_option linter.unusedSimpArgs false
set_option linter.unusedVariables false

/-- The first n cells of block B are f's values, and may be written. -/
def Row (w : World) (B n : Nat) (f : Nat → Value) : Prop := ∀ j, j < n → w.cell? ⟨B, j, none⟩ = some (f j) ∧ w.frozen? ⟨B, j, none⟩ = false
theorem Row.congr {w : World} {B n : Nat} {f g : Nat → Value} (h : Row w B n f) (e : ∀ j, j < n → f j = g j) : Row w B n g := fun j hj => by rw [← e j hj]; exact h j hj
theorem Row.set {w : World} {B n : Nat} {f : Nat → Value} (h : Row w B n f) {i : Nat} (hi : i < n) (v : Value) : Row (w.setCell ⟨B, i, none⟩ v) B n (fun j => if j = i then v else f j) := by
  intro j hj
  refine ⟨?_, by rw [World.frozen?_setCell]; exact (h j hj).2⟩
  by_cases e : j = i
  · subst e
    rw [World.cell?_setCell_same _ _ _ (h j hj).1]
    show some v = some (if j = j then v else f j)
    rw [if_pos rfl]
  · rw [World.cell?_setCell_other _ _ _ _ (by intro h; injection h with _ h2; exact e h2.symm)]
    show _ = some (if j = i then v else f j)
    rw [if_neg e]
    exact (h j hj).1
theorem Row.grown {w w' : World} {B n : Nat} {f : Nat → Value} (h : Row w B n f) {row : Option Nat} (hg : w.grownBy w' row) (hB : B < w.heap.size) (hne : some B ≠ row) : Row w' B n f := fun j hj =>
  ⟨hg.cell (h j hj).1 hne, (hg.frozen_far ⟨B, j, none⟩ hB hne).trans (h j hj).2⟩
theorem Row.below {w w' : World} {B n k : Nat} {f : Nat → Value} (h : Row w B n f) (hb : Below k w w') (hB : B < k) : Row w' B n f := fun j hj =>
  ⟨(hb.cell (p := ⟨B, j, none⟩) hB).trans (h j hj).1, (hb.frozen (p := ⟨B, j, none⟩) hB).trans (h j hj).2⟩
theorem grownBy_setCell (w : World) (B i : Nat) (v : Value) : w.grownBy (w.setCell ⟨B, i, none⟩ v) (some B) :=
  ⟨rfl, rfl, rfl, by simp, fun k hk hne => Below.heap_setCell _ _ _ _ (by intro h; exact hne (by rw [h]))⟩
theorem grownBy_of_below {w w' : World} (hb : Below w.heap.size w w') (row : Option Nat) : w.grownBy w' row := ⟨hb.os, hb.tape, hb.output, hb.size, fun k hk _ => hb.block k hk⟩
theorem block_lt {w : World} {a : Addr} {v : Value} (h : w.cell? a = some v) : a.block < w.heap.size := by
  rcases Nat.lt_or_ge a.block w.heap.size with h' | h'
  · exact h'
  · unfold World.cell? at h
    simp [Array.getElem?_eq_none h'] at h

set_option maxRecDepth 100000 in
theorem cover_any (key : ByteArray) (kb sk : Value) (f : Nat) (B i n N cap : Nat) (ao : Option Addr) (g : Nat → Value) (w : World)
    (hao : 0 < n → ao = some ⟨B, i, none⟩) (hn : i + n ≤ N) (hN : N ≤ 65536) (hB : B < w.heap.size) (hr : Row w B N g) :
    Calls Tryd.prog 18 #[.agg #[.string key, kb, .int .u8 f, sk], .slice ao n cap] w fun e w' => e = .returned (.tuple #[]) ∧ w.grownBy w' (some B) ∧ Row w' B N (fun j => if i ≤ j ∧ j < i + n then .int .u8 f else g j) := by
  have hr0 : Row (w.alloc (.cells #[.string key, kb, .int .u8 f, sk] 29)) B N g := hr.grown (World.grownBy_alloc _ _ none) hB (by simp)
  clear hr
  have hc0 : (w.alloc (.cells #[.string key, kb, .int .u8 f, sk] 29)).cell? ⟨w.heap.size, 2, none⟩ = some (.int .u8 f) := by simp
  have HRA : Hid (Row (w.alloc (.cells #[.string key, kb, .int .u8 f, sk] 29)) B N g) := hr0
  have HG : Hid (w.grownBy (w.alloc (.cells #[.string key, kb, .int .u8 f, sk] 29)) (some B)) := World.grownBy_alloc _ _ _
  clear hr0
  go_enter Tryd.func18, Tryd.ntmps18
  go_wp2
  obtain ⟨W, hW⟩ : ∃ W, w.alloc (.cells #[.string key, kb, .int .u8 f, sk] 29) = W := ⟨_, rfl⟩
  rw [hW] at hc0 HG HRA ⊢
  clear hW
  have HC0 : Hid (W.cell? ⟨w.heap.size, 2, none⟩ = some (.int .u8 f)) := hc0
  clear hc0
  go_loopw [7] (fun x wr => ∃ k : Nat, k ≤ n ∧ x = .int .i64 k ∧ w.grownBy wr (some B) ∧ W.grownBy wr (some B) ∧ Row wr B N (fun j => if i ≤ j ∧ j < i + k then .int .u8 f else g j)) (fun x _ => n - (intOf x).toNat)
  case atStart => exact ⟨0, Nat.zero_le _, rfl, HG.out, World.grownBy.refl _ _, HRA.out.congr fun j hj => by rw [if_neg (by omega)]⟩
  case round =>
    obtain ⟨k, hk, rfl, hg1, hg2, hrow⟩ := hrel
    have HROW : Hid (Row wr B N (fun j => if i ≤ j ∧ j < i + k then .int .u8 f else g j)) := hrow
    have HG1 : Hid (w.grownBy wr (some B)) := hg1
    have HG2 : Hid (W.grownBy wr (some B)) := hg2
    clear hrow hg1 hg2
    by_cases h1 : k < n
    · have h2 : (k : Int) < (n : Int) := by omega
      have hc := HG2.out.cell HC0.out (by simp; omega)
      have hcB := HROW.out (i + k) (by omega)
      have hao2 := hao (by omega)
      subst hao2
      go_wp2
      refine ⟨⟨k + 1, by omega, by go_num, HG1.out.trans (grownBy_setCell _ _ _ _), HG2.out.trans (grownBy_setCell _ _ _ _), (HROW.out.set (by omega : i + k < N) (.int .u8 f)).congr fun j hj => ?_⟩, by simp [intOf]; omega⟩
      by_cases e : j = i + k
      · rw [if_pos e, if_pos (by omega)]
      · rw [if_neg e]
        by_cases e2 : i ≤ j ∧ j < i + k
        · rw [if_pos e2, if_pos (by omega)]
        · rw [if_neg e2, if_neg (by omega)]
    · have h2 : ¬ (k : Int) < (n : Int) := by omega
      go_wp2
      have e : k = n := by omega
      subst e
      exact bodyPost_end (v := .tuple #[]) (by simp [results, Tryd.results18, go_sem]) rfl ⟨rfl, HG1.out, HROW.out⟩
end Go.Proofs.Qxb6604104aDoor
