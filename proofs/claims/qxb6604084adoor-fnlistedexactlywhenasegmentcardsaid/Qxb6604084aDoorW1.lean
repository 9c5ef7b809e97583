import Derived.Test.Qxb6604084aDoorShelf
import Derived.Test.Qxb6604084aDoorPlain
import Derived.RangeFuncNested
import Derived.RangeFuncBound
import Derived.RangeFuncCalls
import Derived.RangeFuncLeaves
import Derived.Shelf.Abstract
import Derived.WalkKit
import Derived.OwnWalkIn
import Derived.TacticsInMore
import Derived.LoopNIn
import Derived.LoopIn
import Derived.WalkSpells
namespace Go.Proofs.Qxb6604084aDoor
open Go.RowKit Go.Shelf
attribute [local go_sem] Oper.semAt_some
set_option linter.unusedSimpArgs false
set_option linter.unusedVariables false

/-- How many bytes are still to be split, read off the iterator's own cell. -/
def leftAt (Bs : Nat) (W : World) : Nat := match W.cell? ⟨Bs, 0, none⟩ with
  | some (.string t) => t.size
  | _ => 0
theorem leftAt_eq {Bs : Nat} {W : World} {t : ByteArray} (h : W.cell? ⟨Bs, 0, none⟩ = some (.string t)) : leftAt Bs W = t.size := by
  unfold leftAt; rw [h]

set_option maxRecDepth 100000 in
set_option maxHeartbeats 1000000 in
theorem it_in (n : Nat) (hn : 1 ≤ n) (l Bs Bp Bv : Nat) (J Jx : List (List UInt8) → World → Prop)
    (hst : ∀ pre W v, J pre W → J pre (W.setCell ⟨Bs, 0, none⟩ v))
    (hfa : ∀ pre W, J pre W → W.cell? ⟨Bp, 0, none⟩ = some (.string ⟨#[44]⟩) ∧ W.cell? ⟨Bv, 0, none⟩ = some (.int .i64 0) ∧ W.frozen? ⟨Bs, 0, none⟩ = false)
    (hY : ∀ pre (x : ByteArray) W, J pre W → YieldAt Fence.wide (n - 1) Tryd.prog l #[.string x] W fun e W' =>
      (e = .returned (.bool true) ∧ J (pre ++ [x.data.toList]) W' ∧ W'.cell? ⟨Bs, 0, none⟩ = W.cell? ⟨Bs, 0, none⟩) ∨ (e = .returned (.bool false) ∧ Jx (pre ++ [x.data.toList]) W'))
    (s : ByteArray) (hs : s.size ≤ 1048576) (W : World) (hc : W.cell? ⟨Bs, 0, none⟩ = some (.string s)) (h0 : J [] W) :
    CallsIn Fence.wide n Tryd.prog 13 #[.func (.yield l) #[] #[], .pointer (some ⟨Bp, 0, none⟩), .pointer (some ⟨Bs, 0, none⟩), .pointer (some ⟨Bv, 0, none⟩)] W fun e W' => (∃ v, e = .returned v) ∧
      (J (segs s.data.toList) W' ∨ (∃ pre, pre <+: segs s.data.toList ∧ Jx pre W')) := by
  obtain ⟨hp, hv, hf⟩ := hfa [] W h0
  refine callsIn_of_wp Tryd.func13 rfl trivial ?_ rfl
  simp only [Tryd.ntmps13, List.size_toArray, List.length_cons, List.length_nil, Nat.reduceAdd, Nat.reduceSub, Array.replicate_succ, Array.replicate_zero, List.push_toArray, List.append_toArray, List.nil_append, List.cons_append]
  gi_wp2
  gi_loopw [7] (fun _ wr => ∃ (pre : List (List UInt8)) (rest : ByteArray), J pre wr ∧ wr.cell? ⟨Bs, 0, none⟩ = some (.string rest) ∧ rest.size ≤ 1048576 ∧ Hid (segs s.data.toList = pre ++ segs rest.data.toList)) (fun _ wr => leftAt Bs wr)
  case atStart => exact ⟨[], s, h0, hc, hs, rfl⟩
  case round =>
    obtain ⟨pre, rest, hJ, hcr, hrs, HS⟩ := hrel
    obtain ⟨hp1, hv1, hf1⟩ := hfa pre wr hJ
    rcases idx_cases rest.data.toList with ⟨hi, hseg⟩ | ⟨o, ho, hol, hseg⟩
    · have HI : Hid (Lib.indexByte rest.data.toList 44 = -1 ∧ segs rest.data.toList = [rest.data.toList]) := ⟨hi, hseg⟩
      clear hi hseg
      obtain ⟨fn, tmps, assign, body, hy, hR⟩ := hY pre rest wr hJ
      gi_wp2_with (refine ⟨trivial, ?_⟩; gi_at_call 15; refine (callsIn_wide.2 (Tryd.strings_Index_one rest 44 wr)).mono ?_; rintro e w' ⟨rfl, rfl⟩; rw [HI.out.1])
      refine hR.mono ?_
      rintro e W3 (⟨rfl, hJ3, hk3⟩ | ⟨rfl, hJx3⟩)
      · gi_wp2
        go_end0
        exact ⟨⟨_, rfl⟩, .inl (by rw [HS.out, HI.out.2]; exact hJ3)⟩
      · gi_wp2
        go_end0
        exact ⟨⟨_, rfl⟩, .inr ⟨_, by rw [HS.out, HI.out.2]; exact List.prefix_refl _, hJx3⟩⟩
    · have HI : Hid (Lib.indexByte rest.data.toList 44 = o ∧ segs rest.data.toList = rest.data.toList.take o :: segs (rest.data.toList.drop (o + 1))) := ⟨ho, hseg⟩
      have hos : o < rest.size := by rw [Lib.size_eq]; exact hol
      have HX : Hid ((rest.extract 0 o).data.toList = rest.data.toList.take o) := by
        show (rest.extract 0 o).data.toList = rest.data.toList.take o
        rw [Lib.extract_data]; simp
      have HY2 : Hid ((rest.extract (o + 1) rest.size).data.toList = rest.data.toList.drop (o + 1)) := by
        show (rest.extract (o + 1) rest.size).data.toList = rest.data.toList.drop (o + 1)
        rw [Lib.extract_data, List.take_of_length_le (by simp)]
      clear ho hseg hol
      obtain ⟨fn, tmps, assign, body, hy, hR⟩ := hY pre (rest.extract 0 o) wr hJ
      gi_wp2_with (refine ⟨trivial, ?_⟩; gi_at_call 15; refine (callsIn_wide.2 (Tryd.strings_Index_one rest 44 wr)).mono ?_; rintro e w' ⟨rfl, rfl⟩; rw [HI.out.1])
      refine hR.mono ?_
      rintro e W3 (⟨rfl, hJ3, hk3⟩ | ⟨rfl, hJx3⟩)
      · obtain ⟨hp3, hv3, hf3⟩ := hfa _ W3 hJ3
        have hc3 : W3.cell? ⟨Bs, 0, none⟩ = some (.string rest) := hk3.trans hcr
        have HK := hst _ W3 (.string (rest.extract (o + 1) rest.size)) hJ3
        clear hk3
        gi_wp2
        go_roundw
        case rel => exact ⟨_, rest.extract (o + 1) rest.size, HK, World.cell?_setCell_same' _ _ _ (by rw [hc3]; rfl), by simp; omega, by
          show segs s.data.toList = _
          rw [HS.out, HI.out.2, HX.out, HY2.out]; simp⟩
        case measure =>
          rw [leftAt_eq (World.cell?_setCell_same' _ _ _ (by rw [hc3]; rfl)), leftAt_eq hcr]
          simp; omega
      · gi_wp2
        refine bodyPost_ret (results_none rfl _ _ _) rfl ?_
        exact ⟨⟨_, rfl⟩, .inr ⟨_, ⟨segs (rest.data.toList.drop (o + 1)), by rw [HS.out, HI.out.2, HX.out]; simp⟩, hJx3⟩⟩
end Go.Proofs.Qxb6604084aDoor
