import Derived.Test.Qxb6600609aDoorW5
import Derived.Test.Qxb6600609aDoorPlain2
import Derived.WalkKit
import Derived.WalkSpells
import Derived.WalkLawsBesides
import Derived.BigQuiet
import Derived.Deep.QuietTactic
import Derived.Deep.DeepCutAuto
import Derived.Deep.CutBlock
import Derived.Handy
namespace Go.Proofs.Qxb6600609aDoor
open Go.RowKit
set_option linter.unusedSimpArgs false
set_option linter.unusedVariables false

/-- The sign read: the digits begin at a. -/
def SignAt (s : ByteArray) (a : Nat) (neg : Bool) : Prop := a ≤ s.size ∧ a ≤ 1 ∧ signOf s.data.toList = neg ∧ restOf s.data.toList = s.data.toList.drop a
theorem head_get (s : ByteArray) (a : Nat) (h : a < s.size) : (s.data.toList.drop a).head? = some s[a] := by rw [list_cons s a h]; rfl
theorem sign_yes (s : ByteArray) (h0 : 0 < s.size) (h : (s[0].toNat : Int) = 45) : SignAt s 1 true := by
  have e := head_get s 0 h0
  rw [List.drop_zero, u8_eq 45 h] at e
  exact ⟨h0, Nat.le_refl _, by simp [signOf, e], by simp [restOf, e]⟩
theorem sign_no (s : ByteArray) (h : ¬ ∃ h0 : 0 < s.size, (s[0].toNat : Int) = 45) : SignAt s 0 false := by
  have e : ¬ s.data.toList.head? = some 45 := by
    intro e
    by_cases h0 : 0 < s.size
    · have e2 := head_get s 0 h0
      rw [List.drop_zero, e] at e2
      refine h ⟨h0, ?_⟩
      rw [← Option.some.inj e2]; rfl
    · have : s.data.toList = [] := List.length_eq_zero_iff.1 (by rw [← Lib.size_eq]; omega)
      rw [this] at e; cases e
  exact ⟨Nat.zero_le _, by omega, by simp [signOf, e], by simp [restOf, e]⟩

theorem sign_head (s : ByteArray) : signOf s.data.toList = decide (∃ h0 : 0 < s.size, (s[0].toNat : Int) = 45) := by
  by_cases h : ∃ h0 : 0 < s.size, (s[0].toNat : Int) = 45
  · rw [decide_eq_true h, (sign_yes s h.1 h.2).2.2.1]
  · rw [decide_eq_false h, (sign_no s h).2.2.1]
theorem sign_at (s : ByteArray) : (signOf s.data.toList = true → SignAt s 1 true) ∧ (signOf s.data.toList = false → SignAt s 0 false) := by
  rw [sign_head]
  exact ⟨fun h => by have := of_decide_eq_true h; exact sign_yes s this.1 this.2, fun h => sign_no s (of_decide_eq_false h)⟩

theorem ld_at (s : ByteArray) (a : Nat) : ld (s.data.toList.drop a) = (s.data.toList.drop a).take (nd s a) := (take_tw isD _).symm
theorem rd_at (s : ByteArray) (a : Nat) : rd (s.data.toList.drop a) = s.data.toList.drop (a + nd s a) := by
  have := drop_tw isD (s.data.toList.drop a)
  unfold rd; rw [← this, List.drop_drop]; rfl
theorem ld_size (s : ByteArray) (a : Nat) : (ld (s.data.toList.drop a)).length = nd s a := rfl
theorem bad_yes0 {s : ByteArray} {a b : Nat} (h : a + nd s a = b) (h1 : b ≤ a) : badWhole (ld (s.data.toList.drop a)) = true := by
  unfold badWhole; exact decide_eq_true (.inl (List.length_eq_zero_iff.1 (by rw [ld_size]; omega)))
theorem ld_head {s : ByteArray} {a : Nat} (h : 0 < nd s a) (ha : a < s.size) : (ld (s.data.toList.drop a)).head? = some s[a] := by
  rw [ld_at, list_cons s a ha]
  obtain ⟨m, hm⟩ : ∃ m, nd s a = m + 1 := ⟨nd s a - 1, by omega⟩
  rw [hm]; rfl
theorem bad_yes1 {s : ByteArray} {a b : Nat} (h : a + nd s a = b) (h1 : a + 1 < b) (ha : a < s.size) (h2 : (s[a].toNat : Int) = 48) : badWhole (ld (s.data.toList.drop a)) = true := by
  unfold badWhole
  refine decide_eq_true (.inr ⟨by rw [ld_size]; omega, ?_⟩)
  rw [ld_head (by omega) ha, u8_eq 48 h2]
theorem bad_no {s : ByteArray} {a b : Nat} (h : a + nd s a = b) (h1 : a < b) (ha : a < s.size) (h2 : ¬ (a + 1 < b ∧ (s[a].toNat : Int) = 48)) : badWhole (ld (s.data.toList.drop a)) = false := by
  unfold badWhole
  refine decide_eq_false ?_
  rintro (h3 | ⟨h3, h4⟩)
  · have := congrArg List.length h3; rw [ld_size] at this; simp at this; omega
  · rw [ld_size] at h3
    rw [ld_head (by omega) ha] at h4
    refine h2 ⟨by omega, ?_⟩
    rw [Option.some.inj h4]; rfl
theorem fr_no {s : ByteArray} {a b : Nat} (h : a + nd s a = b) (h2 : ¬ ∃ hb : b < s.size, (s[b].toNat : Int) = 46) : fracOf (rd (s.data.toList.drop a)) = some ((s.data.toList.drop b).take (b - b), s.data.toList.drop b) := by
  unfold fracOf
  rw [rd_at, h, if_neg]
  · simp
  · intro e
    by_cases hb : b < s.size
    · rw [head_get s b hb] at e
      refine h2 ⟨hb, ?_⟩
      rw [Option.some.inj e]; rfl
    · rw [List.drop_eq_nil_of_le (by rw [← Lib.size_eq]; omega)] at e; cases e
theorem fr_head {s : ByteArray} {a b : Nat} (h : a + nd s a = b) (hb : b < s.size) (h2 : (s[b].toNat : Int) = 46) : (rd (s.data.toList.drop a)).head? = some 46 ∧ s.data.toList.drop (b + 1) = (rd (s.data.toList.drop a)).drop 1 := by
  rw [rd_at, h]
  exact ⟨by rw [head_get s b hb, u8_eq 46 h2], by rw [List.drop_drop]⟩
theorem fr_bad {s : ByteArray} {a b q : Nat} (h : a + nd s a = b) (hb : b < s.size) (h2 : (s[b].toNat : Int) = 46) (h3 : b + 1 + nd s (b + 1) = q) (h4 : q ≤ b + 1) : fracOf (rd (s.data.toList.drop a)) = none := by
  obtain ⟨e1, e2⟩ := fr_head h hb h2
  unfold fracOf
  rw [if_pos e1, ← e2, if_pos (List.length_eq_zero_iff.1 (by rw [ld_size]; omega))]
theorem fr_yes {s : ByteArray} {a b q : Nat} (h : a + nd s a = b) (hb : b < s.size) (h2 : (s[b].toNat : Int) = 46) (h3 : b + 1 + nd s (b + 1) = q) (h4 : b + 1 < q) : fracOf (rd (s.data.toList.drop a)) = some ((s.data.toList.drop (b + 1)).take (q - (b + 1)), s.data.toList.drop q) := by
  obtain ⟨e1, e2⟩ := fr_head h hb h2
  unfold fracOf
  rw [if_pos e1, ← e2, if_neg (fun e => by have := congrArg List.length e; rw [ld_size] at this; simp at this; omega), ld_at, rd_at, h3]
  rw [show q - (b + 1) = nd s (b + 1) by omega]

theorem me_at (s : ByteArray) (q : Nat) (w : World) (hs : s.size ≤ 1048576) :
    Calls Tryd.prog 12 #[.string (s.extract q s.size)] w fun e w' => e = .returned (.tuple #[.int .i64 ((mexp (s.data.toList.drop q)).getD 0), .bool (mexp (s.data.toList.drop q)).isSome]) ∧ w' = w := by
  have hx : (s.extract q s.size).data.toList = s.data.toList.drop q := by rw [Lib.extract_data, List.take_of_length_le (by simp)]
  have := me_any (s.extract q s.size) w (by rw [Lib.size_eq, hx, List.length_drop, ← Lib.size_eq]; omega)
  rw [hx] at this; exact this
theorem mexp_bd {l : List UInt8} {x : Int} (h : mexp l = some x) : -1152921504606846976 ≤ x ∧ x ≤ 1152921504606846976 := by rw [← pexp_eq] at h; exact pexp_bd h
/-- The two ends of the zeros. -/
def Zeros (l : List UInt8) (k : Nat) : Prop := ∀ (j : Nat) (b : UInt8), k ≤ j → l[j]? = some b → b = 48
def Lead (l : List UInt8) (k : Nat) : Prop := ∀ (j : Nat) (b : UInt8), j < k → l[j]? = some b → b = 48
theorem zeros_end (m : ByteArray) : Zeros m.data.toList m.size := fun j b h e => by
  rw [Lib.size_eq] at h
  rw [List.getElem?_eq_none h] at e; cases e
theorem zeros_step {m : ByteArray} {j : Nat} (h : Zeros m.data.toList (j + 1)) (hj : j < m.size) (h48 : (m[j].toNat : Int) = 48) : Zeros m.data.toList j := fun i b hi e => by
  by_cases hij : i = j
  · subst hij
    rw [get_list m i hj] at e
    rw [← Option.some.inj e]; exact u8_eq 48 h48
  · exact h i b (by omega) e
theorem zeros_stop {m : ByteArray} {j : Nat} (h : Zeros m.data.toList (j + 1)) (hj : j < m.size) (h48 : ¬ (m[j].toNat : Int) = 48) : Lib.trimRightB m.data.toList 48 = m.data.toList.take (j + 1) :=
  Lib.trimRightB_take _ _ _ (by rw [← Lib.size_eq]; omega) h (fun b _ e => by
    rw [Nat.add_sub_cancel, get_list m j hj] at e
    rw [← Option.some.inj e]; exact u8_ne 48 h48)
theorem zeros_all {m : ByteArray} (h : Zeros m.data.toList 0) : Lib.trimRightB m.data.toList 48 = m.data.toList.take 0 :=
  Lib.trimRightB_take _ _ _ (Nat.zero_le _) h (fun b h0 _ => absurd h0 (by omega))
theorem lead_step {m : ByteArray} {k : Nat} (h : Lead m.data.toList k) (hk : k < m.size) (h48 : (m[k].toNat : Int) = 48) : Lead m.data.toList (k + 1) := fun i b hi e => by
  by_cases hij : i = k
  · subst hij
    rw [get_list m i hk] at e
    rw [← Option.some.inj e]; exact u8_eq 48 h48
  · exact h i b (by omega) e
theorem lead_stop {m : ByteArray} {k hi : Nat} (h : Lead m.data.toList k) (hk : k < hi) (hm : hi ≤ m.size) (h48 : ¬ (m[k].toNat : Int) = 48) : Lib.trimLeftB (m.data.toList.take hi) 48 = (m.data.toList.take hi).drop k :=
  Lib.trimLeftB_drop _ _ _ (by rw [List.length_take, ← Lib.size_eq]; omega) (fun j b hj e => by rw [List.getElem?_take_of_lt (by omega)] at e; exact h j b hj e)
    (fun b e => by
      rw [List.getElem?_take_of_lt hk, get_list m k (by omega)] at e
      rw [← Option.some.inj e]; exact u8_ne 48 h48)
theorem lead_all {m : ByteArray} {hi : Nat} (h : Lead m.data.toList hi) (hm : hi ≤ m.size) : Lib.trimLeftB (m.data.toList.take hi) 48 = (m.data.toList.take hi).drop hi :=
  Lib.trimLeftB_drop _ _ _ (by rw [List.length_take, ← Lib.size_eq]; omega) (fun j b hj e => by rw [List.getElem?_take_of_lt hj] at e; exact h j b hj e)
    (fun b e => by rw [List.getElem?_eq_none (by rw [List.length_take]; omega)] at e; cases e)
theorem canonM_zero {neg : Bool} {wh fr : List UInt8} {e : Int} (h : Lib.trimLeftB (Lib.trimRightB (wh ++ fr) 48) 48 = []) : canonM neg wh fr e = zero := by unfold canonM; dsimp only; rw [if_pos h]
theorem canonM_some {neg : Bool} {wh fr : List UInt8} {e : Int} (h : ¬ Lib.trimLeftB (Lib.trimRightB (wh ++ fr) 48) 48 = []) : canonM neg wh fr e = (neg, Lib.trimLeftB (Lib.trimRightB (wh ++ fr) 48) 48, ((Lib.trimLeftB (Lib.trimRightB (wh ++ fr) 48) 48).length : Int) + ((e - fr.length) + (((wh ++ fr).length : Int) - (Lib.trimRightB (wh ++ fr) 48).length)), true) := by unfold canonM; dsimp only; rw [if_neg h]
/-- The end's answer, out of the loops' places. -/
theorem canonM_end {neg : Bool} {wh fr : List UInt8} {e : Int} {m : ByteArray} {hi lo n : Nat} (hm : m.data.toList = wh ++ fr) (h1 : Lib.trimRightB m.data.toList 48 = m.data.toList.take hi) (h2 : Lib.trimLeftB (m.data.toList.take hi) 48 = (m.data.toList.take hi).drop lo) (hlo : lo < hi) (hhi : hi ≤ m.size) (hn : fr.length = n) :
    (neg, (m.extract lo hi).data.toList, (hi : Int) - lo + ((e - n) + ((m.size : Int) - hi)), true) = canonM neg wh fr e := by
  have hl : (m.data.toList.take hi).length = hi := by rw [List.length_take, ← Lib.size_eq]; omega
  have hd : ((m.data.toList.take hi).drop lo).length = hi - lo := by rw [List.length_drop, hl]
  rw [canonM_some (by rw [← hm, h1, h2]; intro e; rw [e] at hd; simp at hd; omega), ← hm, h1, h2, hd, hl, hn, ← Lib.size_eq]
  have e1 : (m.extract lo hi).data.toList = (m.data.toList.take hi).drop lo := by rw [Lib.extract_data, List.drop_take]
  have e2 : (hi : Int) - lo + ((e - n) + ((m.size : Int) - hi)) = ((hi - lo : Nat) : Int) + ((e - n) + ((m.size : Int) - hi)) := by omega
  rw [e1, e2]
theorem canonM_end0 {neg : Bool} {wh fr : List UInt8} {e : Int} {m : ByteArray} {hi lo : Nat} (hm : m.data.toList = wh ++ fr) (h1 : Lib.trimRightB m.data.toList 48 = m.data.toList.take hi) (h2 : Lib.trimLeftB (m.data.toList.take hi) 48 = (m.data.toList.take hi).drop lo) (hlo : lo = hi) : canonM neg wh fr e = zero :=
  canonM_zero (by rw [← hm, h1, h2, hlo]; exact List.drop_eq_nil_of_le (by rw [List.length_take]; omega))

set_option maxHeartbeats 1000000 in
set_option maxRecDepth 100000 in
theorem md_any (s : ByteArray) (w : World) (hs : s.size ≤ 1048576) :
    Calls Tryd.prog 9 #[.string s] w fun e w' => ∃ neg d x ok, e = .returned (.tuple #[.bool neg, .string d, .int .i64 x, .bool ok]) ∧ (neg, d.data.toList, x, ok) = decM s.data.toList ∧ ∃ n, w' = w.drewN n := by
  go_enter Tryd.func9, Tryd.ntmps9
  go_upto_region 4 with fail
  go_cut [31] (fun b wx => b = .bool (signOf s.data.toList) ∧ wx = w)
  case first =>
    have HS : Hid (signOf s.data.toList = decide (∃ h0 : 0 < s.size, (s[0].toNat : Int) = 45)) := sign_head s
    by_cases h0 : 0 < s.size
    · by_cases h1 : (s[0].toNat : Int) = 45
      · have k1 : ((s[0].toNat : Int) == 45) = true := by rw [h1]; rfl
        have H : Hid (signOf s.data.toList = true) := HS.out.trans (decide_eq_true ⟨h0, h1⟩)
        clear h1
        go_wp2
        go_meet
        case rel => exact ⟨by rw [H.out], rfl⟩
      · have k1 : ((s[0].toNat : Int) == 45) = false := beq_eq_false_iff_ne.2 h1
        have H : Hid (signOf s.data.toList = false) := HS.out.trans (decide_eq_false (fun ⟨_, h⟩ => h1 h))
        clear h1
        go_wp2
        go_meet
        case rel => exact ⟨by rw [H.out], rfl⟩
    · have H : Hid (signOf s.data.toList = false) := HS.out.trans (decide_eq_false (fun ⟨h, _⟩ => h0 h))
      go_wp2
      go_meet
      case rel => exact ⟨by rw [H.out], rfl⟩
  case rest =>
    obtain ⟨rfl, rfl⟩ := hcut
    have HS : Hid ((signOf s.data.toList = true → SignAt s 1 true) ∧ (signOf s.data.toList = false → SignAt s 0 false)) := sign_at s
    obtain ⟨neg, hneg⟩ : ∃ b, signOf s.data.toList = b := ⟨_, rfl⟩
    rw [hneg]
    have HN : Hid (signOf s.data.toList = neg) := hneg
    clear hneg
    go_upto_if 31 with fail
    go_cut [7, 8] (fun i b wx => ∃ (a : Nat), SignAt s a neg ∧ i = .int .i64 a ∧ b = .bool neg ∧ wx = wc)
    case first =>
      cases neg
      case true =>
        have H := HS.out.1 HN.out
        go_wp2
        go_meet
        case rel => exact ⟨1, H, rfl, rfl, rfl⟩
      case false =>
        have H := HS.out.2 HN.out
        go_wp2
        go_meet
        case rel => exact ⟨0, H, rfl, rfl, rfl⟩
    case rest =>
      obtain ⟨a, hsg, rfl, rfl, rfl⟩ := hcut
      have ha := hsg.1
      have ha1 := hsg.2.1
      have HD : Hid (decM s.data.toList = decOf mexp canonM neg (s.data.toList.drop a)) := by
        show decM s.data.toList = decOf mexp canonM neg (s.data.toList.drop a)
        unfold decM; rw [hsg.2.2.1, hsg.2.2.2]
      clear hsg
      have hle := nd_le s a ha
      go_upto_block 0 with fail
      go_cut [7] (fun i wx => i = .int .i64 (a + nd s a : Nat) ∧ wx = wc)
      case first =>
        go_wp2_with fail
        go_loop [7] (fun i => ∃ k : Nat, a ≤ k ∧ k ≤ a + nd s a ∧ i = .int .i64 k) (fun i => s.size - (intOf i).toNat)
        case atStart => exact ⟨a, Nat.le_refl _, by omega, rfl⟩
        case round =>
          obtain ⟨k, hk1, hk2, rfl⟩ := hrel
          by_cases hlt : k < s.size
          · by_cases hd : 48 ≤ (s[k].toNat : Int) ∧ (s[k].toNat : Int) ≤ 57
            · have hk3 := nd_step s a k hk1 hk2 hlt (isD_yes hd.1 hd.2)
              obtain ⟨hd1, hd2⟩ := hd
              go_wp2
              go_round
              case rel => exact ⟨k + 1, by omega, hk3, by go_num⟩
              case measure => simp [intOf]; omega
            · have H : Hid (a + nd s a = k) := nd_stop s a k hk1 hk2 hlt (isD_no hd)
              by_cases h48 : 48 ≤ (s[k].toNat : Int)
              · have h57 : ¬ (s[k].toNat : Int) ≤ 57 := by omega
                go_wp2
                go_meet
                case rel => exact ⟨by rw [H.out], rfl⟩
              · go_wp2
                go_meet
                case rel => exact ⟨by rw [H.out], rfl⟩
          · have H : Hid (a + nd s a = k) := by show a + nd s a = k; omega
            go_wp2
            go_meet
            case rel => exact ⟨by rw [H.out], rfl⟩
      case rest =>
        obtain ⟨rfl, rfl⟩ := hcut
        obtain ⟨b, hb⟩ : ∃ b, a + nd s a = b := ⟨_, rfl⟩
        rw [hb] at hle ⊢
        have hab : a ≤ b := by omega
        have HB : Hid (a + nd s a = b) := hb
        clear hb
        go_upto_region 11 with fail
        go_cut [61] (fun x wx => x = .bool (badWhole (ld (s.data.toList.drop a))) ∧ wx = wc)
        case first =>
          by_cases h1 : b ≤ a
          · have k1 : ((b : Int) == (a : Int)) = true := by simp; omega
            have H : Hid (badWhole (ld (s.data.toList.drop a)) = true) := bad_yes0 HB.out h1
            go_wp2
            go_meet
            case rel => exact ⟨by rw [H.out], rfl⟩
          · have k1 : ((b : Int) == (a : Int)) = false := beq_eq_false_iff_ne.2 (by omega)
            have ha2 : a < s.size := by omega
            by_cases h2 : (s[a].toNat : Int) = 48
            · have k2 : ((s[a].toNat : Int) == 48) = true := by rw [h2]; rfl
              by_cases h3 : a + 1 < b
              · have H : Hid (badWhole (ld (s.data.toList.drop a)) = true) := bad_yes1 HB.out h3 ha2 h2
                clear h2
                go_wp2
                go_meet
                case rel => exact ⟨by rw [H.out, decide_eq_true (by omega)], rfl⟩
              · have H : Hid (badWhole (ld (s.data.toList.drop a)) = false) := bad_no HB.out (by omega) ha2 (fun ⟨h, _⟩ => h3 h)
                clear h2
                go_wp2
                go_meet
                case rel => exact ⟨by rw [H.out, decide_eq_false (by omega)], rfl⟩
            · have k2 : ((s[a].toNat : Int) == 48) = false := beq_eq_false_iff_ne.2 h2
              have H : Hid (badWhole (ld (s.data.toList.drop a)) = false) := bad_no HB.out (by omega) ha2 (fun ⟨_, h⟩ => h2 h)
              clear h2
              go_wp2
              go_meet
              case rel => exact ⟨by rw [H.out], rfl⟩
        case rest =>
          obtain ⟨rfl, rfl⟩ := hcut
          cases hbad : badWhole (ld (s.data.toList.drop a)) with
          | true =>
            have H : Hid (decM s.data.toList = no) := HD.out.trans (dec_no_whole hbad)
            clear hbad
            go_wp2
            go_returns
            exact ⟨_, _, _, _, rfl, by rw [H.out]; rfl, 0, rfl⟩
          | false =>
            have HW : Hid (badWhole (ld (s.data.toList.drop a)) = false) := hbad
            clear hbad
            go_upto_region 15 with fail
            go_cut [72] (fun x wx => x = .bool (decide (∃ hb : b < s.size, (s[b].toNat : Int) = 46)) ∧ wx = wc)
            case first =>
              by_cases h0 : b < s.size
              · by_cases h1 : (s[b].toNat : Int) = 46
                · have k1 : ((s[b].toNat : Int) == 46) = true := by rw [h1]; rfl
                  have H : Hid (decide (∃ hb : b < s.size, (s[b].toNat : Int) = 46) = true) := decide_eq_true ⟨h0, h1⟩
                  clear h1
                  go_wp2
                  go_meet
                  case rel => exact ⟨by rw [H.out], rfl⟩
                · have k1 : ((s[b].toNat : Int) == 46) = false := beq_eq_false_iff_ne.2 h1
                  have H : Hid (decide (∃ hb : b < s.size, (s[b].toNat : Int) = 46) = false) := decide_eq_false (fun ⟨_, h⟩ => h1 h)
                  clear h1
                  go_wp2
                  go_meet
                  case rel => exact ⟨by rw [H.out], rfl⟩
              · have H : Hid (decide (∃ hb : b < s.size, (s[b].toNat : Int) = 46) = false) := decide_eq_false (fun ⟨h, _⟩ => h0 h)
                go_wp2
                go_meet
                case rel => exact ⟨by rw [H.out], rfl⟩
            case rest =>
              obtain ⟨rfl, rfl⟩ := hcut
              obtain ⟨o, ho⟩ : ∃ o, decide (∃ hb : b < s.size, (s[b].toNat : Int) = 46) = o := ⟨_, rfl⟩
              rw [ho]
              have HO : Hid (decide (∃ hb : b < s.size, (s[b].toNat : Int) = 46) = o) := ho
              clear ho
              go_upto_if 72 with fail
              go_cut [7, 11, 12] (fun i fs fe wx => ∃ p q : Nat, i = .int .i64 q ∧ fs = .int .i64 p ∧ fe = .int .i64 q ∧ p ≤ q ∧ q ≤ s.size ∧ Hid (fracOf (rd (s.data.toList.drop a)) = some ((s.data.toList.drop p).take (q - p), s.data.toList.drop q)) ∧ wx = wc)
              case first =>
                cases o
                case false =>
                  have H : Hid (fracOf (rd (s.data.toList.drop a)) = some ((s.data.toList.drop b).take (b - b), s.data.toList.drop b)) := fr_no HB.out (of_decide_eq_false HO.out)
                  go_wp2
                  go_meet
                  case rel => exact ⟨b, b, rfl, rfl, rfl, Nat.le_refl _, hle, H, rfl⟩
                case true =>
                  obtain ⟨hb1, hb2⟩ := of_decide_eq_true HO.out
                  have HB2 : Hid ((s[b].toNat : Int) = 46) := hb2
                  have hle2 := nd_le s (b + 1) hb1
                  clear hb2
                  go_upto_block 2 with fail
                  go_cut [7] (fun i wx => i = .int .i64 (b + 1 + nd s (b + 1) : Nat) ∧ wx = wc)
                  case first =>
                    go_wp2_with fail
                    go_loop [7] (fun i => ∃ k : Nat, b + 1 ≤ k ∧ k ≤ b + 1 + nd s (b + 1) ∧ i = .int .i64 k) (fun i => s.size - (intOf i).toNat)
                    case atStart => exact ⟨b + 1, Nat.le_refl _, by omega, by go_num⟩
                    case round =>
                      obtain ⟨k, hk1, hk2, rfl⟩ := hrel
                      by_cases hlt : k < s.size
                      · by_cases hd : 48 ≤ (s[k].toNat : Int) ∧ (s[k].toNat : Int) ≤ 57
                        · have hk3 := nd_step s (b + 1) k hk1 hk2 hlt (isD_yes hd.1 hd.2)
                          obtain ⟨hd1, hd2⟩ := hd
                          go_wp2
                          go_round
                          case rel => exact ⟨k + 1, by omega, hk3, by go_num⟩
                          case measure => simp [intOf]; omega
                        · have H : Hid (b + 1 + nd s (b + 1) = k) := nd_stop s (b + 1) k hk1 hk2 hlt (isD_no hd)
                          by_cases h48 : 48 ≤ (s[k].toNat : Int)
                          · have h57 : ¬ (s[k].toNat : Int) ≤ 57 := by omega
                            go_wp2
                            go_meet
                            case rel => exact ⟨by rw [H.out], rfl⟩
                          · go_wp2
                            go_meet
                            case rel => exact ⟨by rw [H.out], rfl⟩
                      · have H : Hid (b + 1 + nd s (b + 1) = k) := by show b + 1 + nd s (b + 1) = k; omega
                        go_wp2
                        go_meet
                        case rel => exact ⟨by rw [H.out], rfl⟩
                  case rest =>
                    obtain ⟨rfl, rfl⟩ := hcut
                    obtain ⟨q, hq⟩ : ∃ q, b + 1 + nd s (b + 1) = q := ⟨_, rfl⟩
                    rw [hq] at hle2 ⊢
                    have hbq : b + 1 ≤ q := by omega
                    have HQ : Hid (b + 1 + nd s (b + 1) = q) := hq
                    clear hq
                    by_cases h4 : q ≤ b + 1
                    · have k1 : ((q : Int) == (b : Int) + 1) = true := by simp; omega
                      have H : Hid (decM s.data.toList = no) := HD.out.trans (dec_no_frac HW.out (fr_bad HB.out hb1 HB2.out HQ.out h4))
                      go_wp2
                      go_returns
                      exact ⟨_, _, _, _, rfl, by rw [H.out]; rfl, 0, rfl⟩
                    · have k1 : ((q : Int) == (b : Int) + 1) = false := beq_eq_false_iff_ne.2 (by omega)
                      have H := fr_yes HB.out hb1 HB2.out HQ.out (by omega)
                      have H' : Hid (fracOf (rd (s.data.toList.drop a)) = some ((s.data.toList.drop (b + 1)).take (q - (b + 1)), s.data.toList.drop q)) := H
                      clear H
                      go_wp2
                      go_meet
                      case rel => exact ⟨b + 1, q, rfl, by go_num, rfl, hbq, hle2, H', rfl⟩
              case rest =>
                obtain ⟨p, q, rfl, rfl, rfl, hpq, hq, HF, rfl⟩ := hcut
                go_upto_if 93 with fail
                go_cut [13] (fun x wx => ∃ e : Int, Hid (expOf mexp (s.data.toList.drop q) = some e) ∧ x = .int .i64 e ∧ -1152921504606846976 ≤ e ∧ e ≤ 1152921504606846976 ∧ wx = wc)
                case first =>
                  by_cases hqs : q < s.size
                  · have HX : Hid (expOf mexp (s.data.toList.drop q) = mexp (s.data.toList.drop q)) := if_neg (fun e => by have := congrArg List.length e; rw [List.length_drop, ← Lib.size_eq] at this; simp at this; omega)
                    go_wp2_with fail
                    refine (me_at s q _ hs).mono ?_
                    rintro e w1 ⟨rfl, rfl⟩
                    cases hx : mexp (s.data.toList.drop q) with
                    | none =>
                      have H : Hid (decM s.data.toList = no) := HD.out.trans (dec_no_exp HW.out HF.out (HX.out.trans hx))
                      clear hx
                      go_wp2
                      go_returns
                      exact ⟨_, _, _, _, rfl, by rw [H.out]; rfl, 0, rfl⟩
                    | some x =>
                      have H : Hid (expOf mexp (s.data.toList.drop q) = some x) := HX.out.trans hx
                      have hbd := mexp_bd hx
                      clear hx
                      go_wp2
                      go_meet
                      case rel => exact ⟨x, H, rfl, hbd.1, hbd.2, rfl⟩
                  · have H : Hid (expOf mexp (s.data.toList.drop q) = some 0) := if_pos (List.drop_eq_nil_of_le (by rw [← Lib.size_eq]; omega))
                    go_wp2
                    go_meet
                    case rel => exact ⟨0, H, rfl, by omega, by omega, rfl⟩
                case rest =>
                  obtain ⟨e, HE, rfl, he1, he2, rfl⟩ := hcut
                  have HC : Hid (decM s.data.toList = canonM neg (ld (s.data.toList.drop a)) ((s.data.toList.drop p).take (q - p)) e) := HD.out.trans (dec_some HW.out HF.out HE.out)
                  go_wp2_with fail
                  go_quiet (fail)
                  obtain ⟨m, hm⟩ : ∃ m, s.extract a b ++ s.extract p q = m := ⟨_, rfl⟩
                  rw [hm]
                  have hml : m.data.toList = ld (s.data.toList.drop a) ++ (s.data.toList.drop p).take (q - p) := by
                    rw [← hm, ld_at, show nd s a = b - a by have := HB.out; omega]
                    simp [Lib.extract_data]
                  have hfl : ((s.data.toList.drop p).take (q - p)).length = q - p := by rw [List.length_take, List.length_drop, ← Lib.size_eq]; omega
                  have hmz : m.size ≤ 2097152 := by
                    have := congrArg List.length hml
                    rw [List.length_append, hfl, ld_size, ← Lib.size_eq] at this
                    have := HB.out
                    omega
                  have HM : Hid (m.data.toList = ld (s.data.toList.drop a) ++ (s.data.toList.drop p).take (q - p)) := hml
                  have HFL : Hid (((s.data.toList.drop p).take (q - p)).length = q - p) := hfl
                  have HZ := zeros_end m
                  clear hm hml hfl
                  go_upto_block 4 with fail
                  go_cut [17] (fun x wx => ∃ hi : Nat, hi ≤ m.size ∧ Hid (Lib.trimRightB m.data.toList 48 = m.data.toList.take hi) ∧ x = .int .i64 hi ∧ wx = wc.drewN nq)
                  case first =>
                    go_wp2_with fail
                    go_loop [17] (fun x => ∃ k : Nat, k ≤ m.size ∧ Zeros m.data.toList k ∧ x = .int .i64 k) (fun x => (intOf x).toNat)
                    case atStart => exact ⟨m.size, Nat.le_refl _, HZ, rfl⟩
                    case round =>
                      obtain ⟨k, hk, hz, rfl⟩ := hrel
                      by_cases hk0 : 0 < k
                      · obtain ⟨j, rfl⟩ : ∃ j, k = j + 1 := ⟨k - 1, by omega⟩
                        have hj : j < m.size := by omega
                        by_cases h48 : (m[j].toNat : Int) = 48
                        · have hz2 := zeros_step hz hj h48
                          have k1 : ((m[j].toNat : Int) == 48) = true := by rw [h48]; rfl
                          clear h48
                          go_wp2
                          go_round
                          case rel => exact ⟨j, by omega, hz2, by go_num⟩
                          case measure => simp [intOf]
                        · have H : Hid (Lib.trimRightB m.data.toList 48 = m.data.toList.take (j + 1)) := zeros_stop hz hj h48
                          have k1 : ((m[j].toNat : Int) == 48) = false := beq_eq_false_iff_ne.2 h48
                          clear h48
                          go_wp2
                          go_meet
                          case rel => exact ⟨j + 1, hk, H, by go_num, rfl⟩
                      · obtain rfl : k = 0 := by omega
                        have H : Hid (Lib.trimRightB m.data.toList 48 = m.data.toList.take 0) := zeros_all hz
                        go_wp2
                        go_meet
                        case rel => exact ⟨0, hk, H, rfl, rfl⟩
                  case rest =>
                    obtain ⟨hi, hhi, HHI, rfl, rfl⟩ := hcut
                    go_upto_block 6 with fail
                    go_cut [18] (fun x wx => ∃ lo : Nat, lo ≤ hi ∧ Hid (Lib.trimLeftB (m.data.toList.take hi) 48 = (m.data.toList.take hi).drop lo) ∧ x = .int .i64 lo ∧ wx = wc.drewN nq)
                    case first =>
                      go_wp2_with fail
                      go_loop [18] (fun x => ∃ k : Nat, k ≤ hi ∧ Lead m.data.toList k ∧ x = .int .i64 k) (fun x => hi - (intOf x).toNat)
                      case atStart => exact ⟨0, Nat.zero_le _, fun j b hj _ => absurd hj (by omega), rfl⟩
                      case round =>
                        obtain ⟨k, hk, hz, rfl⟩ := hrel
                        by_cases hlt : k < hi
                        · have hj : k < m.size := by omega
                          by_cases h48 : (m[k].toNat : Int) = 48
                          · have hz2 := lead_step hz hj h48
                            have k1 : ((m[k].toNat : Int) == 48) = true := by rw [h48]; rfl
                            clear h48
                            go_wp2
                            go_round
                            case rel => exact ⟨k + 1, by omega, hz2, by go_num⟩
                            case measure => simp [intOf]; omega
                          · have H : Hid (Lib.trimLeftB (m.data.toList.take hi) 48 = (m.data.toList.take hi).drop k) := lead_stop hz hlt hhi h48
                            have k1 : ((m[k].toNat : Int) == 48) = false := beq_eq_false_iff_ne.2 h48
                            clear h48
                            go_wp2
                            go_meet
                            case rel => exact ⟨k, hk, H, rfl, rfl⟩
                        · obtain rfl : k = hi := by omega
                          have H : Hid (Lib.trimLeftB (m.data.toList.take k) 48 = (m.data.toList.take k).drop k) := lead_all hz hhi
                          go_wp2
                          go_meet
                          case rel => exact ⟨k, hk, H, rfl, rfl⟩
                    case rest =>
                      obtain ⟨lo, hlo, HLO, rfl, rfl⟩ := hcut
                      by_cases heq : lo = hi
                      · have k1 : ((lo : Int) == (hi : Int)) = true := by simp; omega
                        have H : Hid (decM s.data.toList = zero) := HC.out.trans (canonM_end0 HM.out HHI.out HLO.out heq)
                        clear heq
                        go_wp2
                        go_returns
                        exact ⟨_, _, _, _, rfl, by rw [H.out]; rfl, _, rfl⟩
                      · have k1 : ((lo : Int) == (hi : Int)) = false := beq_eq_false_iff_ne.2 (by omega)
                        have hlt : lo < hi := by omega
                        go_wp2_with fail
                        go_quiet (fail)
                        go_wp2
                        go_returns
                        refine ⟨neg, m.extract lo hi, _, true, rfl, ?_, _, World.drewN_drewN _ _ _⟩
                        rw [HC.out, ← canonM_end HM.out HHI.out HLO.out hlt hhi HFL.out]
                        refine Prod.ext rfl (Prod.ext rfl (Prod.ext ?_ rfl))
                        show _ = (hi : Int) - lo + ((e - (q - p : Nat)) + ((m.size : Int) - hi))
                        rw [Int.ofNat_sub hpq]
end Go.Proofs.Qxb6600609aDoor
