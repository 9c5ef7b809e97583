import Derived.Test.Qxb6604131aDoorW6
import Derived.Lib.OthersKept
import Derived.Lib.TrimU
import Derived.Lib.QuoteLoop
import Derived.Laws.RangeAny
import Derived.Laws.Runes
namespace Go.Proofs.Qxb6604131aDoor
open Go.RowKit
set_option linter.unusedSimpArgs false
set_option linter.unusedVariables false

/-- A string of 2 to 4 bytes whose last one is no ASCII byte. -/
def Hi (E : ByteArray) : Prop := 2 ≤ E.size ∧ E.size ≤ 4 ∧ ∀ (h : E.size - 1 < E.size), 128 ≤ E[E.size - 1].toNat
theorem hi_enc (d : Nat) (hd : 128 ≤ d) : Hi (if d < 0x80 then ⟨#[UInt8.ofNat d]⟩
  else if d < 0x800 then ⟨#[UInt8.ofNat (0xC0 + d / 64), UInt8.ofNat (0x80 + d % 64)]⟩
  else if d < 0x10000 then ⟨#[UInt8.ofNat (0xE0 + d / 4096), UInt8.ofNat (0x80 + d / 64 % 64), UInt8.ofNat (0x80 + d % 64)]⟩
  else ⟨#[UInt8.ofNat (0xF0 + d / 262144), UInt8.ofNat (0x80 + d / 4096 % 64), UInt8.ofNat (0x80 + d / 64 % 64), UInt8.ofNat (0x80 + d % 64)]⟩) := by
  have h64 : 128 ≤ (UInt8.ofNat (0x80 + d % 64)).toNat := by simp; omega
  rw [if_neg (by omega)]
  split
  · exact ⟨Nat.le_refl 2, by show 2 ≤ 4; omega, fun _ => h64⟩
  · split
    · exact ⟨by show 2 ≤ 3; omega, by show 3 ≤ 4; omega, fun _ => h64⟩
    · exact ⟨by show 2 ≤ 4; omega, Nat.le_refl 4, fun _ => h64⟩
theorem enc_high (c : Nat) (h : 128 ≤ c) : Hi (Utf8.encode (c : Int)) := by
  unfold Utf8.encode
  refine hi_enc _ ?_
  split
  · omega
  · decide
theorem below_drewN {B : Nat} {a w : World} (h : Below B a w) (n : Nat) : Below B a (w.drewN n) := h.trans ⟨rfl, rfl, rfl, Nat.le_refl _, fun _ _ => rfl⟩
set_option maxRecDepth 1000000 in
set_option maxHeartbeats 400000 in
theorem ir_high (c : Nat) (hc : 128 ≤ c) (hc2 : c ≤ 1114111) (w : World) :
    Calls Tryd.prog 43 #[.string ⟨#[101, 69]⟩, .int .i32 c] w fun e w' => e = .returned (.int .i64 (-1)) ∧ Below w.heap.size w w' := by
  have hcI : ¬ (c : Int) < 128 := by omega
  have hc0 : (0 : Int) ≤ (c : Int) := by omega
  by_cases h1 : c = 65533
  · subst h1
    have n0 : ∀ ty, (Instr.next (.pointer (some ⟨w.heap.size, 0, none⟩)) true ty).run Tryd.prog (w.iter ⟨#[101, 69]⟩ 0) = .ok (.tuple #[.bool true, .int .i64 0, .int .i32 101]) (w.iter ⟨#[101, 69]⟩ 1) := fun ty => run_next_ascii w ⟨#[101, 69]⟩ 0 ty (by decide) (by decide)
    have n1 : ∀ ty, (Instr.next (.pointer (some ⟨w.heap.size, 0, none⟩)) true ty).run Tryd.prog (w.iter ⟨#[101, 69]⟩ 1) = .ok (.tuple #[.bool true, .int .i64 1, .int .i32 69]) (w.iter ⟨#[101, 69]⟩ 2) := fun ty => run_next_ascii w ⟨#[101, 69]⟩ 1 ty (by decide) (by decide)
    have n2 : ∀ ty, (Instr.next (.pointer (some ⟨w.heap.size, 0, none⟩)) true ty).run Tryd.prog (w.iter ⟨#[101, 69]⟩ 2) = .ok (.tuple #[.bool false]) (w.iter ⟨#[101, 69]⟩ 2) := fun ty => run_next_end w ⟨#[101, 69]⟩ 2 ty (by decide)
    go_enter Tryd.func43, Tryd.ntmps43
    go_wp2
    go_rounds 3
    go_ret
    exact ⟨rfl, (Below.refl _ _).alloc (Nat.le_refl _) _⟩
  · have k1 : ((c : Int) == 65533) = false := beq_eq_false_iff_ne.2 (by omega)
    have hE := enc_high c hc
    obtain ⟨E, hEe⟩ : ∃ E, Utf8.encode (c : Int) = E := ⟨_, rfl⟩
    rw [hEe] at hE
    obtain ⟨hE1, hE2, hE3⟩ := hE
    have cv := Tryd.utf8_ValidRune (c : Int) w
    obtain ⟨b, hb⟩ : ∃ b, Lib.validRune (c : Int) = b := ⟨_, rfl⟩
    rw [hb] at cv
    clear hb
    go_enter Tryd.func43, Tryd.ntmps43
    go_wp2_with fail
    refine cv.mono ?_
    rintro e w0 ⟨rfl, hw⟩
    rw [hw]
    clear hw cv
    cases b with
    | false =>
      go_wp2_with fail
      go_ret
      exact ⟨rfl, Below.refl _ _⟩
    | true =>
      go_wp2_with fail
      first | refine wp_scope_jumps 1 (fun _ _ => False) (fun _ _ => 0) rfl ?first ?pass | refine wp_scope_jumps 2 (fun _ _ => False) (fun _ _ => 0) rfl ?first ?pass | refine wp_scope_jumps 3 (fun _ _ => False) (fun _ _ => 0) rfl ?first ?pass | refine wp_scope_jumps 4 (fun _ _ => False) (fun _ _ => 0) rfl ?first ?pass | refine wp_scope_jumps 5 (fun _ _ => False) (fun _ _ => 0) rfl ?first ?pass
      case pass => rintro a' w' h; exact h.elim
      case first =>
        by_cases h2 : E.size = 2
        · have h2I : ((E.size : Int) - 1) = 1 := by omega
          have hlt : 1 < E.size := by omega
          have hE4 : 128 ≤ E[1].toNat := by
            have := hE3 (by omega)
            simp only [h2] at this
            exact this
          have ci := Tryd.strings_IndexByte ⟨#[]⟩ (E[1].toNat : Int)
          have hix : ∀ u : UInt8, Lib.indexByte (⟨#[]⟩ : ByteArray).data.toList u = -1 := fun u => rfl
          simp only [hix] at ci
          obtain ⟨y, hy⟩ : ∃ y, E[1].toNat = y := ⟨_, rfl⟩
          rw [hy] at ci hE4
          clear hE3 hix
          go_wp2_with fail
          refine wp_loop_rounds 1 ?_
          rw [rounds_succ]
          go_wp2_with fail
          first | refine wp_scope_jumps 0 (fun _ _ => False) (fun _ _ => 0) rfl ?first2 ?pass2 | refine wp_scope_jumps 1 (fun _ _ => False) (fun _ _ => 0) rfl ?first2 ?pass2 | refine wp_scope_jumps 2 (fun _ _ => False) (fun _ _ => 0) rfl ?first2 ?pass2 | refine wp_scope_jumps 3 (fun _ _ => False) (fun _ _ => 0) rfl ?first2 ?pass2 | refine wp_scope_jumps 4 (fun _ _ => False) (fun _ _ => 0) rfl ?first2 ?pass2 | refine wp_scope_jumps 5 (fun _ _ => False) (fun _ _ => 0) rfl ?first2 ?pass2
          case pass2 => rintro a' w' h; exact h.elim
          case first2 =>
            have i1 : ((69 : Int) != (y : Int)) = true := by rw [bne_iff_ne]; omega
            have i2 : (1 : Int) < (E.size : Int) := by omega
            have i3 : ((((⟨#[101, 69]⟩ : ByteArray)[1]'(by decide)).toNat : Int) != (y : Int)) = true := by show (((69 : Nat) : Int) != (y : Int)) = true; rw [bne_iff_ne]; omega
            go_wp2_with fail
            go_quiet (fail)
            have hnq : Below w.heap.size w (w.drewN nq) := below_drewN (Below.refl _ _) nq
            obtain ⟨W2, hW2⟩ : ∃ W2, w.drewN nq = W2 := ⟨_, rfl⟩
            rw [hW2] at hnq ⊢
            have HNQ : Hid (Below w.heap.size w W2) := hnq
            clear hW2 hnq
            go_wp2_with fail
            go_quiet (first | (go_at_call 56; exact Calls.quiet_of_same (ci _)))
            go_wp2_with fail
            change bodyPost Tryd.prog Tryd.f43 (fun e w' => e = .returned (.int .i64 (-1)) ∧ Below w.heap.size w w') .ret _ _
            go_ret
            exact ⟨rfl, below_drewN HNQ.out _⟩
        · clear hE3
          rcases (show E.size = 3 ∨ E.size = 4 by omega) with h3 | h3
          · have h3I : ((E.size : Int) - 1) = 2 := by omega
            go_wp2_with fail
            go_rounds 1
            simp only [Exit.jump]
            go_ret
            exact ⟨rfl, Below.refl _ _⟩
          · have h3I : ((E.size : Int) - 1) = 3 := by omega
            go_wp2_with fail
            go_rounds 1
            simp only [Exit.jump]
            go_ret
            exact ⟨rfl, Below.refl _ _⟩
end Go.Proofs.Qxb6604131aDoor
