import Derived.Test.Qxb6604131aDoorW7
import Derived.Deep.WholeRow
import Derived.Deep.LoopGhost
namespace Go.Proofs.Qxb6604131aDoor
open Go.RowKit
set_option linter.unusedSimpArgs false
set_option linter.unusedVariables false

theorem wd_le (s : ByteArray) (pos : Nat) (h : pos < s.size) : pos + (Utf8.decode s pos).2 ≤ s.size := by
  rw [Lib.decode_at]
  have := Lib.decodeN_width_le (s.size - pos) (s.get! pos).toNat (s.get! (pos + 1)).toNat (s.get! (pos + 2)).toNat (s.get! (pos + 3)).toNat (by omega)
  omega
theorem high_N (n b0 b1 b2 b3 : Nat) : 128 ≤ b0 → (2 ≤ (Lib.decodeN n b0 b1 b2 b3).2 → 128 ≤ b1) ∧ (3 ≤ (Lib.decodeN n b0 b1 b2 b3).2 → 128 ≤ b2) ∧ (4 ≤ (Lib.decodeN n b0 b1 b2 b3).2 → 128 ≤ b3) ∧ (Lib.decodeN n b0 b1 b2 b3).2 ≤ 4 := by
  unfold Lib.decodeN
  (repeat' split) <;> intro h <;> simp <;> omega
theorem get_bang (s : ByteArray) (j : Nat) (b : UInt8) (h : s.data.toList[j]? = some b) : s.get! j = b := by
  have hj : j < s.size := by
    rw [Lib.size_eq]
    exact (List.getElem?_eq_some_iff.1 h).1
  have h2 := get_list s j hj
  rw [h2] at h
  have h3 := get_at s j hj
  rw [Nat.add_zero] at h3
  rw [h3]
  exact Option.some.inj h
theorem high_at (s : ByteArray) (pos : Nat) (h : pos < s.size) (hb : 128 ≤ s[pos].toNat) (j : Nat) (h1 : pos ≤ j) (h2 : j < pos + (Utf8.decode s pos).2) (b : UInt8) (hj : s.data.toList[j]? = some b) : 128 ≤ b.toNat := by
  rw [Lib.decode_at] at h2
  have h3 := get_at s pos h
  rw [Nat.add_zero] at h3
  have H := high_N (s.size - pos) (s.get! pos).toNat (s.get! (pos + 1)).toNat (s.get! (pos + 2)).toNat (s.get! (pos + 3)).toNat (by rw [h3]; exact hb)
  have hg := get_bang s j b hj
  rw [← hg]
  obtain ⟨a1, a2, a3, a4⟩ := H
  rcases (show j = pos ∨ j = pos + 1 ∨ j = pos + 2 ∨ j = pos + 3 by omega) with e | e | e | e
  · rw [e, h3]; exact hb
  · rw [e]; exact a1 (by omega)
  · rw [e]; exact a2 (by omega)
  · rw [e]; exact a3 (by omega)
theorem no_high (b : UInt8) (h : 128 ≤ b.toNat) : List.contains [101, 69] b = false := by
  have h1 : (b == 101) = false := beq_eq_false_iff_ne.2 fun e => by rw [e] at h; exact absurd h (by decide)
  have h2 : (b == 69) = false := beq_eq_false_iff_ne.2 fun e => by rw [e] at h; exact absurd h (by decide)
  simp only [List.contains, List.elem, h1, h2]
theorem noany_high {s : ByteArray} {pos : Nat} (hn : Lib.NoAny s.data.toList [101, 69] pos) (h : pos < s.size) (hb : 128 ≤ s[pos].toNat) : Lib.NoAny s.data.toList [101, 69] (pos + (Utf8.decode s pos).2) := fun j b hj hjb => by
  by_cases e : j < pos
  · exact hn j b e hjb
  · exact no_high b (high_at s pos h hb j (by omega) hj b hjb)

set_option maxRecDepth 1000000 in
set_option maxHeartbeats 1000000 in
theorem ia_short (s chars : ByteArray) (w : World) (h8 : s.size ≤ 8) (hch : chars = ⟨#[101, 69]⟩) :
    Calls Tryd.prog 27 #[.string s, .string chars] w fun e w' => e = .returned (.int .i64 (Lib.indexAny s.data.toList [101, 69])) ∧ Below w.heap.size w w' := by
  have irh : ∀ (c : Nat), 128 ≤ c → c ≤ 1114111 → ∀ w : World, Calls Tryd.prog 43 #[.string chars, .int .i32 c] w fun e w' => e = .returned (.int .i64 (-1)) ∧ Below w.heap.size w w' := by rw [hch]; exact ir_high
  have ira : ∀ (c : UInt8), c.toNat < 128 → ∀ w : World, Calls Tryd.prog 43 #[.string chars, .int .i32 c.toNat] w fun e w' => e = .returned (.int .i64 (Lib.indexByte [101, 69] c)) ∧ w' = w := by
    intro c hc w
    have := Tryd.strings_IndexRune_ascii chars (c.toNat : Int) w (by omega) (by omega)
    rw [show ((c.toNat : Int)).toNat.toUInt8 = c by simp, hch] at this
    rw [hch]
    exact this
  have k0 : chars.toList.isEmpty = false := by rw [hch]; exact toList_not (by simp)
  have k1 : ((chars.size : Int) == 1) = false := by rw [hch]; rfl
  have cz : Calls Tryd.prog 44 #[.int .i64 s.size] w fun e w' => e = .returned (.bool false) ∧ w' = w := by
    have := Tryd.strings_shouldUseASCIISet (s.size : Int) w
    rw [decide_eq_false (by omega : ¬ (8 : Int) < (s.size : Int))] at this
    exact this
  clear hch
  go_enter Tryd.func27, Tryd.ntmps27
  go_wp2_with fail
  refine cz.mono ?_
  rintro e w0 ⟨rfl, hw⟩
  rw [hw]
  clear hw cz
  go_wp2_with fail
  go_loopg [9, 10] s.size (fun g _ _ wx => ∃ i : Nat, i + g = s.size ∧ wx.heap[w.heap.size]? = some (.stringIter s i) ∧ Below w.heap.size w wx ∧ Lib.NoAny s.data.toList [101, 69] i)
  case atStart => exact ⟨0, by omega, World.iter_heap w s 0, (Below.refl _ w).alloc (Nat.le_refl _) _, Lib.NoAny.zero _ _⟩
  case round =>
    obtain ⟨i, hig, hit, hbw, hno⟩ := hrel
    have HN : Hid (Lib.NoAny s.data.toList [101, 69] i) := hno
    clear hno
    by_cases hi : i < s.size
    · have hnx : ∀ ty, (Instr.next (.pointer (some ⟨w.heap.size, 0, none⟩)) true ty).run Tryd.prog wr = _ := fun ty => Lib.run_next_any_at wr w.heap.size s i ty hit hi
      by_cases hb : s[i].toNat < 128
      · have hd := decode_ascii s i hi hb
        rw [hd] at hnx
        clear hd
        obtain ⟨x, hx⟩ : ∃ x : UInt8, s[i]'hi = x := ⟨_, rfl⟩
        have Hx : Hid (s.data.toList[i]? = some x) := by rw [← hx]; exact get_list s i hi
        rw [hx] at hnx hb
        have hit2 := Lib.iterAt_heap wr w.heap.size s i (i + 1) hit
        have hbw2 := Lib.below_iterAt hbw (k := w.heap.size) (Nat.le_refl _) s (i + 1)
        obtain ⟨W, hWd⟩ : ∃ W, wr.iterAt w.heap.size s (i + 1) = W := ⟨_, rfl⟩
        simp only [hWd] at hnx hit2 hbw2
        clear hWd hit hbw hx
        have hcon := Lib.contains_iff_indexByte [101, 69] x
        have ca := ira x hb W
        cases hin : List.contains [101, 69] x
        · rw [hin] at hcon
          have hlt : ¬ ((0 : Int) ≤ Lib.indexByte [101, 69] x) := of_decide_eq_false hcon.symm
          obtain ⟨J, hJ⟩ : ∃ J, Lib.indexByte [101, 69] x = J := ⟨_, rfl⟩
          rw [hJ] at ca hlt
          clear hcon hJ
          go_wp2_with (go_at_call 43; refine ca.mono ?_; rintro e w' ⟨rfl, hww⟩; rw [hww]; clear hww w')
          go_roundg (gk - 1)
          case measure => omega
          case rel => exact ⟨i + 1, by omega, hit2, hbw2, HN.out.succ Hx.out hin⟩
        · rw [hin] at hcon
          have hlt : ((0 : Int) ≤ Lib.indexByte [101, 69] x) := of_decide_eq_true hcon.symm
          obtain ⟨J, hJ⟩ : ∃ J, Lib.indexByte [101, 69] x = J := ⟨_, rfl⟩
          rw [hJ] at ca hlt
          clear hcon hJ
          have HR : Hid (Lib.indexAny s.data.toList [101, 69] = i) := Lib.indexAny_hit HN.out Hx.out hin
          clear hin
          go_wp2_with (go_at_call 43; refine ca.mono ?_; rintro e w' ⟨rfl, hww⟩; rw [hww]; clear hww w')
          go_ret
          exact ⟨by rw [HR.out]; rfl, hbw2⟩
      · have hb2 : 128 ≤ s[i].toNat := by omega
        have hR1 := (decode_high s i hi hb2).1
        have hK1 := (decode_high s i hi hb2).2
        have hR2 := Lib.rune_le s i
        have hK2 := wd_le s i hi
        have HN2 : Hid (Lib.NoAny s.data.toList [101, 69] (i + (Utf8.decode s i).2)) := noany_high HN.out hi hb2
        obtain ⟨R, hR⟩ : ∃ R, (Utf8.decode s i).1 = R := ⟨_, rfl⟩
        obtain ⟨K, hK⟩ : ∃ K, (Utf8.decode s i).2 = K := ⟨_, rfl⟩
        rw [hR] at hR1 hR2
        rw [hK] at hK1 hK2 HN2
        simp only [hR, hK] at hnx
        clear hb hb2 hR hK
        have hit2 := Lib.iterAt_heap wr w.heap.size s i (i + K) hit
        have hbw2 := Lib.below_iterAt hbw (k := w.heap.size) (Nat.le_refl _) s (i + K)
        obtain ⟨W, hWd⟩ : ∃ W, wr.iterAt w.heap.size s (i + K) = W := ⟨_, rfl⟩
        simp only [hWd] at hnx hit2 hbw2
        clear hWd hit hbw
        have ca := irh R hR1 hR2 W
        have hWlt : w.heap.size < W.heap.size := (Array.getElem?_eq_some_iff.1 hit2).1
        go_wp2_with (go_at_call 43; refine ca.mono ?_; rintro e w2 ⟨rfl, hb2⟩)
        go_roundg (gk - K)
        case measure => omega
        case rel => exact ⟨i + K, by omega, by rw [hb2.block _ hWlt]; exact hit2, hbw2.trans (hb2.mono (Nat.le_of_lt hWlt)), HN2.out⟩
    · have hnx : ∀ ty, (Instr.next (.pointer (some ⟨w.heap.size, 0, none⟩)) true ty).run Tryd.prog wr = _ := fun ty => Lib.run_next_end_at wr w.heap.size s i ty hit hi
      have HR : Hid (Lib.indexAny s.data.toList [101, 69] = -1) := Lib.indexAny_none (by rw [← Lib.size_eq, show s.size = i by omega]; exact HN.out)
      go_wp2
      go_ret
      exact ⟨by rw [HR.out]; rfl, hbw⟩
theorem ia_any (s : ByteArray) (w : World) (hs : s.size ≤ 1048576) :
    Calls Tryd.prog 27 #[.string s, .string ⟨#[101, 69]⟩] w fun e w' => e = .returned (.int .i64 (Lib.indexAny s.data.toList [101, 69])) ∧ Below w.heap.size w w' := by
  by_cases h8 : s.size ≤ 8
  · exact ia_short s _ w h8 rfl
  · refine (Tryd.strings_IndexAny_long (zero_of_info (n := 256) (by kernel_rfl)).1 s ⟨#[101, 69]⟩ w (by decide) (by omega) (by omega) (by decide) (ascii_of_all (by decide))).mono ?_
    rintro e w' ⟨rfl, rfl⟩
    exact ⟨rfl, ((Below.refl _ w).alloc (Nat.le_refl _) _).alloc (by simp) _⟩
end Go.Proofs.Qxb6604131aDoor
