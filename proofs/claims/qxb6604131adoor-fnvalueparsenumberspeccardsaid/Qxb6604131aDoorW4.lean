import Derived.Test.Qxb6604131aDoorW3
namespace Go.Proofs.Qxb6604131aDoor
open Go.RowKit
set_option linter.unusedSimpArgs false
set_option linter.unusedVariables false

theorem isZ_contains (c : UInt8) : List.contains [48] c = isZ c := by unfold isZ; cases h1 : c == 48 <;> simp [List.contains, List.elem, h1]
theorem trimZ_any (s : ByteArray) (w : World) (hs : s.size ≤ 1048576) :
    Calls Tryd.prog 41 #[.string s, .string ⟨#[48]⟩] w fun e w' => ∃ r : ByteArray, e = .returned (.string r) ∧ r.toList.isEmpty = s.data.toList.all isZ ∧ Below w.heap.size w w' := by
  refine (Tryd.strings_Trim_one s 48 (by decide) w (by omega)).mono ?_
  rintro e w' ⟨rfl, hw⟩
  refine ⟨_, rfl, ?_, ?_⟩
  · have h := trim_all s.data.toList [48] isZ_contains
    rw [Lib.trimS_one] at h
    obtain ⟨r, hr⟩ : ∃ r : ByteArray, (⟨(Lib.trimB s.data.toList 48).toArray⟩ : ByteArray) = r := ⟨_, rfl⟩
    have hrl : r.data.toList = Lib.trimB s.data.toList 48 := by rw [← hr]
    rw [hr]
    rw [← hrl] at h
    cases hb : s.data.toList.all isZ with
    | true => exact toList_nil.2 (h.2 hb)
    | false => exact toList_not fun h2 => by rw [h.1 h2] at hb; cases hb
  · rcases hw with rfl | rfl
    · exact Below.refl _ _
    · exact (Below.refl _ _).drew
theorem trimL_any (s : ByteArray) (w : World) :
    Calls Tryd.prog 24 #[.string s, .string ⟨#[48]⟩] w fun e w' => ∃ r : ByteArray, e = .returned (.string r) ∧ r.data.toList = s.data.toList.dropWhile isZ ∧ w' = w := by
  refine (Tryd.strings_TrimLeft_one s 48 (by decide) w).mono ?_
  rintro e w' ⟨rfl, rfl⟩
  refine ⟨_, rfl, ?_, rfl⟩
  show (Lib.trimLeftB s.data.toList 48) = _
  rfl
/-- A number in memory. -/
def Num (wr : World) (B : Nat) (neg : Bool) (a b : ByteArray) : Prop := wr.heap[B]? = some (.cells #[.bool neg, .string a, .string b] 36 (0, 0))
theorem Num.c0 {wr : World} {B : Nat} {neg : Bool} {a b : ByteArray} (h : Num wr B neg a b) : wr.cell? ⟨B, 0, none⟩ = some (.bool neg) := cell_of_row _ _ _ _ _ _ h
theorem Num.c1 {wr : World} {B : Nat} {neg : Bool} {a b : ByteArray} (h : Num wr B neg a b) : wr.cell? ⟨B, 1, none⟩ = some (.string a) := cell_of_row _ _ _ _ _ _ h
theorem Num.c2 {wr : World} {B : Nat} {neg : Bool} {a b : ByteArray} (h : Num wr B neg a b) : wr.cell? ⟨B, 2, none⟩ = some (.string b) := cell_of_row _ _ _ _ _ _ h
theorem Num.fz {wr : World} {B : Nat} {neg : Bool} {a b : ByteArray} (h : Num wr B neg a b) (j : Nat) : wr.frozen? ⟨B, j, none⟩ = false := by simp [World.frozen?, show wr.heap[B]? = _ from h]
theorem Num.later {wr wr' : World} {B k : Nat} {neg : Bool} {a b : ByteArray} (h : Num wr B neg a b) (hb : Below k wr wr') (hB : B < k) : Num wr' B neg a b := by unfold Num; rw [hb.block B hB]; exact h
theorem Num.lt {wr : World} {B : Nat} {neg : Bool} {a b : ByteArray} (h : Num wr B neg a b) : B < wr.heap.size := (Array.getElem?_eq_some_iff.1 h).1

set_option maxHeartbeats 1000000 in
theorem normal_any (neg : Bool) (a b : ByteArray) (w : World) (hb : b.size ≤ 1048576) :
    Calls Tryd.prog 25 #[.agg #[.bool neg, .string a, .string b]] w fun e w' => e = .returned (.agg #[.bool (NO neg a.data.toList b.data.toList), .string a, .string b]) ∧ Below w.heap.size w w' := by
  by_cases ha : a.data.toList = []
  · have k : a.toList.isEmpty = true := toList_nil.2 ha
    have HN : Hid (NO neg a.data.toList b.data.toList = if b.data.toList.all isZ = true then false else neg) := by
      show NO neg a.data.toList b.data.toList = _
      unfold NO
      by_cases hz : b.data.toList.all isZ = true
      · rw [if_pos ⟨ha, hz⟩, if_pos hz]
      · rw [if_neg (fun h => hz h.2), if_neg hz]
    obtain ⟨z, hz⟩ : ∃ z, b.data.toList.all isZ = z := ⟨_, rfl⟩
    have c := trimZ_any b
    rw [hz] at HN c
    clear hz ha
    obtain ⟨N, hN⟩ : ∃ N, NO neg a.data.toList b.data.toList = N := ⟨_, rfl⟩
    rw [hN] at HN ⊢
    clear hN
    go_enter Tryd.func25, Tryd.ntmps25
    go_wp2_with fail
    have hn1 : Num ((w.alloc (.cells #[.bool neg, .string a, .string b] 36)).alloc (.cells #[.bool false, .string ⟨#[]⟩, .string ⟨#[]⟩] 36)) w.heap.size neg a b := heap_alloc2_old _ _ _
    have hn2 : Num ((w.alloc (.cells #[.bool neg, .string a, .string b] 36)).alloc (.cells #[.bool false, .string ⟨#[]⟩, .string ⟨#[]⟩] 36)) (w.heap.size + 1) false ⟨#[]⟩ ⟨#[]⟩ := heap_alloc2_new _ _ _
    have hbl : Below w.heap.size w ((w.alloc (.cells #[.bool neg, .string a, .string b] 36)).alloc (.cells #[.bool false, .string ⟨#[]⟩, .string ⟨#[]⟩] 36)) := ((Below.refl _ w).alloc (Nat.le_refl _) _).alloc (by simp) _
    refine (c _ hb).mono ?_
    rintro e w1 ⟨r, rfl, hr, hb1⟩
    have m1 := hn1.later hb1 (by simp; omega)
    have m2 := hn2.later hb1 (by simp)
    have HB : Hid (Below w.heap.size w w1) := hbl.trans (hb1.mono (by simp; omega))
    clear hb1 hn1 hn2 hbl c
    have c0 := m1.c0; have c1 := m1.c1; have c2 := m1.c2; have f1 := m1.fz
    have d0 := m2.c0; have d1 := m2.c1; have d2 := m2.c2; have f2 := m2.fz
    clear m1 m2
    cases z with
    | true =>
      have HN2 : Hid (N = false) := HN.out
      go_wp2_with fail
      refine bodyPost_ret (v := .agg #[.bool N, .string a, .string b]) (by rw [HN2.out]; simp [results, Tryd.results25, go_sem, c0, c1, c2, d0, d1, d2]) rfl ⟨rfl, ?_⟩
      exact (((HB.out.setCell (Nat.le_refl _) _).setCell (Nat.le_succ _) _).setCell (Nat.le_succ _) _).setCell (Nat.le_succ _) _
    | false =>
      have HN2 : Hid (N = neg) := HN.out
      go_wp2_with fail
      refine bodyPost_ret (v := .agg #[.bool N, .string a, .string b]) (by rw [HN2.out]; simp [results, Tryd.results25, go_sem, c0, c1, c2, d0, d1, d2]) rfl ⟨rfl, ?_⟩
      exact ((HB.out.setCell (Nat.le_succ _) _).setCell (Nat.le_succ _) _).setCell (Nat.le_succ _) _
  · have k : a.toList.isEmpty = false := toList_not ha
    have HN : Hid (NO neg a.data.toList b.data.toList = neg) := by
      show NO neg a.data.toList b.data.toList = neg
      unfold NO
      rw [if_neg (fun h => ha h.1)]
    clear ha
    obtain ⟨N, hN⟩ : ∃ N, NO neg a.data.toList b.data.toList = N := ⟨_, rfl⟩
    rw [hN] at HN ⊢
    clear hN
    go_enter Tryd.func25, Tryd.ntmps25
    go_wp2_with fail
    refine bodyPost_ret (v := .agg #[.bool N, .string a, .string b]) (by rw [HN.out]; simp [results, Tryd.results25, go_sem]) rfl ⟨rfl, ?_⟩
    exact ((Below.refl _ w).alloc (Nat.le_refl _) _).alloc (by simp) _
end Go.Proofs.Qxb6604131aDoor
