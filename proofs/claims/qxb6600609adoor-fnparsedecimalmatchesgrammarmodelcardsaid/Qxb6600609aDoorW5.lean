import Derived.Test.Qxb6600609aDoorW3
import Derived.Deep.DeepCutAuto
import Derived.Deep.CutBlock
namespace Go.Proofs.Qxb6600609aDoor
open Go.RowKit
set_option linter.unusedSimpArgs false
set_option linter.unusedVariables false

def cutHead (c : UInt8) (l : List UInt8) : List UInt8 := if l.head? = some c then l.drop 1 else l
theorem hasPre_one (c : UInt8) (l : List UInt8) : Lib.hasPrefix l [c] = (l.head? == some c) := by
  cases l with
  | nil => rfl
  | cons a t => simp only [Lib.hasPrefix, List.isPrefixOf, List.head?_cons, Bool.and_true]; rw [Bool.eq_iff_iff]; simp only [beq_iff_eq, Option.some.injEq]; exact eq_comm
theorem trimPre_one (c : UInt8) (l : List UInt8) : Lib.trimPrefix l [c] = cutHead c l := by
  unfold Lib.trimPrefix cutHead
  rw [hasPre_one]
  by_cases h : l.head? = some c <;> simp [h]
theorem cp_any (s : ByteArray) (c : UInt8) (w : World) :
    Calls Tryd.prog 19 #[.string s, .string ⟨#[c]⟩] w fun e w' => ∃ t : ByteArray, e = .returned (.tuple #[.string t, .bool (s.data.toList.head? == some c)]) ∧ t.data.toList = cutHead c s.data.toList ∧ w' = w :=
  (Tryd.strings_CutPrefix s ⟨#[c]⟩ w).mono fun e w' ⟨he, hb⟩ => ⟨⟨(Lib.trimPrefix s.data.toList [c]).toArray⟩, by rw [he, ← hasPre_one], trimPre_one c _, hb⟩
theorem cutHead_len (c : UInt8) (l : List UInt8) : (cutHead c l).length ≤ l.length := by
  unfold cutHead; split
  · simp
  · exact Nat.le_refl _
theorem rd_len (l : List UInt8) : (rd l).length ≤ l.length := (List.dropWhile_suffix _).length_le

theorem pexp_bd {l : List UInt8} {x : Int} (h : pexp l = some x) : -1152921504606846976 ≤ x ∧ x ≤ 1152921504606846976 := by
  cases l with
  | nil => cases h
  | cons c r =>
    simp only [pexp] at h
    split at h
    · unfold pexpR at h
      simp only at h
      split at h
      · cases h
      · cases h; unfold clampE; omega
    · cases h
theorem tl1_any (s : ByteArray) (w : World) :
    Calls Tryd.prog 21 #[.string s, .string ⟨#[48]⟩] w fun e w' => ∃ t : ByteArray, e = .returned (.string t) ∧ t.data.toList = Lib.trimLeftB s.data.toList 48 ∧ w' = w :=
  (Tryd.strings_TrimLeft_one s 48 (by decide) w).mono fun e w' ⟨he, hb⟩ => ⟨_, he, rfl, hb⟩
theorem tr1_any (s : ByteArray) (w : World) (hs : s.size ≤ 1048576) :
    Calls Tryd.prog 22 #[.string s, .string ⟨#[48]⟩] w fun e w' => ∃ t : ByteArray, e = .returned (.string t) ∧ t.data.toList = Lib.trimRightB s.data.toList 48 ∧ w' = w :=
  (Tryd.strings_TrimRight_one s 48 (by decide) w (by omega)).mono fun e w' ⟨he, hb⟩ => ⟨_, he, rfl, hb⟩
theorem canonP_zero {neg : Bool} {wh fr : List UInt8} {e : Int} (h : Lib.trimLeftB (wh ++ fr) 48 = []) : canonP neg wh fr e = zero := by unfold canonP; dsimp only; rw [if_pos h]
theorem canonP_some {neg : Bool} {wh fr : List UInt8} {e : Int} (h : ¬ Lib.trimLeftB (wh ++ fr) 48 = []) : canonP neg wh fr e = (neg, Lib.trimRightB (Lib.trimLeftB (wh ++ fr) 48) 48, ((wh.length : Int) - (((wh ++ fr).length : Int) - (Lib.trimLeftB (wh ++ fr) 48).length)) + e, true) := by unfold canonP; dsimp only; rw [if_neg h]
/-- The test on the whole part, as the walk parts on it. -/
theorem bad_empty {s : ByteArray} (h : s.data.toList = []) : badWhole s.data.toList = true := by unfold badWhole; exact decide_eq_true (.inl h)
theorem bad_zero {s : ByteArray} (h1 : 1 < s.size) (h : (s[0].toNat : Int) = 48) : badWhole s.data.toList = true := by
  unfold badWhole
  refine decide_eq_true (.inr ⟨by rw [← Lib.size_eq]; exact h1, ?_⟩)
  have := list_cons s 0 (by omega)
  rw [List.drop_zero] at this
  rw [this, List.head?_cons, u8_eq 48 h]
theorem bad_not {s : ByteArray} (h0 : s.data.toList ≠ []) (h : ¬ ∃ h1 : 1 < s.size, (s[0].toNat : Int) = 48) : badWhole s.data.toList = false := by
  unfold badWhole
  refine decide_eq_false ?_
  rintro (h2 | ⟨h2, h3⟩)
  · exact h0 h2
  · rw [← Lib.size_eq] at h2
    refine h ⟨h2, ?_⟩
    have := list_cons s 0 (by omega)
    rw [List.drop_zero] at this
    rw [this, List.head?_cons] at h3
    rw [Option.some.inj h3]; rfl
theorem size_pos {s : ByteArray} (h : s.data.toList ≠ []) : 0 < s.size := by
  rw [Lib.size_eq]; exact List.length_pos_iff.2 h
theorem fracOf_yes {r1 t : List UInt8} {fr r2 : List UInt8} (h : r1.head? = some 46) (ht : t = r1.drop 1) (hf : fr = ld t) (hr : r2 = rd t) (hne : fr ≠ []) : fracOf r1 = some (fr, r2) := by
  unfold fracOf; rw [if_pos h, ← ht, ← hf, ← hr, if_neg hne]
theorem fracOf_bad {r1 t : List UInt8} (h : r1.head? = some 46) (ht : t = r1.drop 1) (hf : ld t = []) : fracOf r1 = none := by
  unfold fracOf; rw [if_pos h, ← ht, if_pos hf]
theorem fracOf_no {r1 : List UInt8} (h : ¬ r1.head? = some 46) : fracOf r1 = some ([], r1) := by unfold fracOf; rw [if_neg h]
theorem dec_no_whole {ex canon neg r0} (h : badWhole (ld r0) = true) : decOf ex canon neg r0 = no := by unfold decOf; rw [if_pos h]
theorem dec_no_frac {ex canon neg r0} (h : badWhole (ld r0) = false) (hf : fracOf (rd r0) = none) : decOf ex canon neg r0 = no := by
  unfold decOf; rw [if_neg (by simp [h]), hf]
theorem dec_no_exp {ex canon neg r0 fr r2} (h : badWhole (ld r0) = false) (hf : fracOf (rd r0) = some (fr, r2)) (he : expOf ex r2 = none) : decOf ex canon neg r0 = no := by
  unfold decOf; rw [if_neg (by simp [h]), hf]; simp only [he]
theorem dec_some {ex canon neg r0 fr r2 e} (h : badWhole (ld r0) = false) (hf : fracOf (rd r0) = some (fr, r2)) (he : expOf ex r2 = some e) : decOf ex canon neg r0 = canon neg (ld r0) fr e := by
  unfold decOf; rw [if_neg (by simp [h]), hf]; simp only [he]
theorem fracOf_len {r1 fr r2 : List UInt8} (h : fracOf r1 = some (fr, r2)) : fr.length + r2.length ≤ r1.length := by
  unfold fracOf at h
  split at h
  · split at h
    · cases h
    · cases h
      have := congrArg List.length (ld_rd (r1.drop 1))
      rw [List.length_append, List.length_drop] at this; omega
  · cases h; simp

theorem below_store3 {w W : World} {B : Nat} (hb : Below w.heap.size w W) (hB : w.heap.size ≤ B) (v0 v1 v2 : Value) : Below w.heap.size w (((W.setCell ⟨B, 0, none⟩ v0).setCell ⟨B, 1, none⟩ v1).setCell ⟨B, 2, none⟩ v2) :=
  ((hb.setCell (p := ⟨B, 0, none⟩) hB _).setCell (p := ⟨B, 1, none⟩) hB _).setCell (p := ⟨B, 2, none⟩) hB _
theorem below_new (w : World) (o : Obj) (n : Nat) : Below w.heap.size w ((w.alloc o).drewN n) := below_drewN ((Below.refl _ _).alloc (Nat.le_refl _) _) _
/-- What the result's block holds still. -/
theorem res_cells {w W : World} {o : Obj} (h : Below (w.heap.size + 1) (w.alloc o) W) (i : Nat) : W.cell? ⟨w.heap.size, i, none⟩ = (w.alloc o).cell? ⟨w.heap.size, i, none⟩ ∧ W.frozen? ⟨w.heap.size, i, none⟩ = (w.alloc o).frozen? ⟨w.heap.size, i, none⟩ :=
  ⟨h.cell (p := ⟨w.heap.size, i, none⟩) (Nat.lt_succ_self _), h.frozen (p := ⟨w.heap.size, i, none⟩) (Nat.lt_succ_self _)⟩

set_option maxRecDepth 100000 in
set_option maxHeartbeats 1000000 in
theorem pd_any (s : ByteArray) (w : World) (hs : s.size ≤ 1048576) (ev : Value) (hv : w.cell? ⟨1, 0, none⟩ = some ev) (hev : ev = .nilIface ∨ ∃ te pe, ev = .iface te pe) :
    Calls Tryd.prog 17 #[.string s] w fun e w' => ∃ neg d x ok, e = .returned (.tuple #[.agg #[.bool neg, .string d, .int .i64 x], .bool ok]) ∧ (neg, d.data.toList, x, ok) = decP s.data.toList ∧ Below w.heap.size w w' := by
  go_enter Tryd.func17, Tryd.ntmps17
  go_wp2_with fail
  refine (cp_any s 45 _).mono ?_
  rintro e w1 ⟨r0, rfl, hr0, rfl⟩
  have hr0z : r0.size ≤ 1048576 := by
    have := cutHead_len 45 s.data.toList
    rw [← hr0, ← Lib.size_eq, ← Lib.size_eq] at this; omega
  obtain ⟨neg, hneg⟩ : ∃ neg, (s.data.toList.head? == some 45) = neg := ⟨_, rfl⟩
  rw [hneg]
  have HD : Hid (decP s.data.toList = decOf pexp canonP neg r0.data.toList) := by
    show decP s.data.toList = decOf pexp canonP neg r0.data.toList
    rw [hr0, ← hneg]; rfl
  clear hr0 hneg
  go_wp2_with fail
  refine (ld_any r0 _ hr0z).mono ?_
  rintro e w2 ⟨wh, r1, rfl, hwh, hr1, n, rfl⟩
  have hlen : wh.size + r1.size ≤ 1048576 := by
    have := congrArg List.length (ld_rd r0.data.toList)
    rw [List.length_append, ← hwh, ← hr1, ← Lib.size_eq, ← Lib.size_eq, ← Lib.size_eq] at this; omega
  have HW : Hid (wh.data.toList = ld r0.data.toList) := hwh
  have HR1 : Hid (r1.data.toList = rd r0.data.toList) := hr1
  clear hwh hr1
  go_upto_region 3 with fail
  go_cut [36] (fun b wx => b = .bool (badWhole wh.data.toList) ∧ wx = (w.alloc (.cells #[.bool false, .string ⟨#[]⟩, .int .i64 0] 32)).drewN n)
  case first =>
    by_cases h0 : wh.data.toList = []
    · have k1 : wh.toList.isEmpty = true := toList_nil.2 h0
      have H : Hid (badWhole wh.data.toList = true) := bad_empty h0
      clear h0
      go_wp2
      go_meet
      case rel => exact ⟨by rw [H.out], rfl⟩
    · have k1 : wh.toList.isEmpty = false := toList_not h0
      have hp := size_pos h0
      by_cases h1 : 1 < wh.size
      · by_cases h2 : (wh[0].toNat : Int) = 48
        · have H : Hid (badWhole wh.data.toList = true) := bad_zero h1 h2
          have k2 : ((wh[0].toNat : Int) == 48) = true := by rw [h2]; rfl
          clear h2 h0
          go_wp2
          go_meet
          case rel => exact ⟨by rw [H.out], rfl⟩
        · have H : Hid (badWhole wh.data.toList = false) := bad_not h0 (fun ⟨_, h⟩ => h2 h)
          have k2 : ((wh[0].toNat : Int) == 48) = false := beq_eq_false_iff_ne.2 h2
          clear h2 h0
          go_wp2
          go_meet
          case rel => exact ⟨by rw [H.out], rfl⟩
      · have H : Hid (badWhole wh.data.toList = false) := bad_not h0 (fun ⟨h, _⟩ => h1 h)
        clear h0
        go_wp2
        go_meet
        case rel => exact ⟨by rw [H.out], rfl⟩
  case rest =>
    obtain ⟨rfl, rfl⟩ := hcut
    cases hbad : badWhole wh.data.toList with
    | true =>
      have H : Hid (decP s.data.toList = no) := HD.out.trans (dec_no_whole (HW.out ▸ hbad))
      clear hbad
      go_wp2
      refine bodyPost_ret (v := .tuple #[.agg #[.bool false, .string ⟨#[]⟩, .int .i64 0], .bool false]) (by simp [results, Tryd.results17, go_sem]) rfl ⟨_, _, _, _, rfl, by rw [H.out]; rfl, ?_⟩
      exact below_store3 (below_new _ _ _) (Nat.le_refl _) _ _ _
    | false =>
      have HB : Hid (badWhole (ld r0.data.toList) = false) := HW.out ▸ hbad
      clear hbad
      go_upto_if 43 with (go_at_call 19; refine (cp_any _ 46 _).mono ?_; rintro e w2 ⟨r2, rfl, hr2, rfl⟩)
      have HR2 : Hid (r2.data.toList = cutHead 46 r1.data.toList) := hr2
      clear hr2
      obtain ⟨b46, hb46⟩ : ∃ b, (r1.data.toList.head? == some 46) = b := ⟨_, rfl⟩
      rw [hb46]
      have HB46 : Hid ((r1.data.toList.head? == some 46) = b46) := hb46
      clear hb46
      go_cut [4, 7, 9] (fun r f o wx => ∃ (q fr : ByteArray) (m : Nat), Hid (fracOf (rd r0.data.toList) = some (fr.data.toList, q.data.toList)) ∧ r = .string q ∧ f = .string fr ∧ wx = (w.alloc (.cells #[.bool false, .string ⟨#[]⟩, .int .i64 0] 32)).drewN m)
      case first =>
        cases b46
        case true =>
          have h46 : r1.data.toList.head? = some 46 := by simpa using HB46.out
          have hr2 : r2.data.toList = r1.data.toList.drop 1 := by rw [HR2.out, cutHead, if_pos h46]
          have hz2 : r2.size ≤ 1048576 := by
            have := congrArg List.length hr2
            rw [List.length_drop, ← Lib.size_eq, ← Lib.size_eq] at this; omega
          have H46 : Hid (r1.data.toList.head? = some 46) := h46
          have HR3 : Hid (r2.data.toList = r1.data.toList.drop 1) := hr2
          clear h46 hr2
          go_wp2_with fail
          refine (ld_any r2 _ hz2).mono ?_
          rintro e w3 ⟨fr, r3, rfl, hfr, hr3, m, rfl⟩
          have HF : Hid (fr.data.toList = ld r2.data.toList ∧ r3.data.toList = rd r2.data.toList) := ⟨hfr, hr3⟩
          clear hfr hr3
          by_cases hf0 : fr.data.toList = []
          · have H : Hid (decP s.data.toList = no) := HD.out.trans (dec_no_frac HB.out (HR1.out ▸ fracOf_bad H46.out HR3.out (HF.out.1.symm.trans hf0)))
            have k2 : fr.toList.isEmpty = true := toList_nil.2 hf0
            clear hf0
            go_wp2
            refine bodyPost_ret (v := .tuple #[.agg #[.bool false, .string ⟨#[]⟩, .int .i64 0], .bool false]) (by simp [results, Tryd.results17, go_sem]) rfl ⟨_, _, _, _, rfl, by rw [H.out]; rfl, ?_⟩
            exact below_store3 (below_new _ _ _) (Nat.le_refl _) _ _ _
          · have k2 : fr.toList.isEmpty = false := toList_not hf0
            have H : Hid (fracOf (rd r0.data.toList) = some (fr.data.toList, r3.data.toList)) := HR1.out ▸ fracOf_yes H46.out HR3.out HF.out.1 HF.out.2 hf0
            clear hf0
            go_wp2
            go_meet
            case rel => exact ⟨r3, fr, _, H, rfl, rfl, rfl⟩
        case false =>
          have h46 : ¬ r1.data.toList.head? = some 46 := by simpa using HB46.out
          have H : Hid (fracOf (rd r0.data.toList) = some ((⟨#[]⟩ : ByteArray).data.toList, r1.data.toList)) := HR1.out ▸ fracOf_no h46
          clear h46
          go_wp2
          go_meet
          case rel => exact ⟨r1, ⟨#[]⟩, _, H, rfl, rfl, rfl⟩
      case rest =>
        obtain ⟨q, fr, m, HQ, rfl, rfl, rfl⟩ := hcut
        have hlen2 : fr.size + q.size ≤ r1.size := by
          have := fracOf_len HQ.out
          rw [← HR1.out, ← Lib.size_eq, ← Lib.size_eq, ← Lib.size_eq] at this; exact this
        go_upto_if 53 with fail
        obtain ⟨bq, hbq⟩ : ∃ b, q.toList.isEmpty = b := ⟨_, rfl⟩
        rw [hbq]
        have HBQ : Hid (q.toList.isEmpty = bq) := hbq
        clear hbq
        go_cut [10] (fun x wx => ∃ e : Int, Hid (expOf pexp q.data.toList = some e) ∧ x = .int .i64 e ∧ -1152921504606846976 ≤ e ∧ e ≤ 1152921504606846976 ∧ Below (w.heap.size + 1) (w.alloc (.cells #[.bool false, .string ⟨#[]⟩, .int .i64 0] 32)) wx)
        case first =>
          cases bq
          case true =>
            have hq0 : q.data.toList = [] := toList_nil.1 HBQ.out
            have H : Hid (expOf pexp q.data.toList = some 0) := if_pos hq0
            clear hq0
            go_wp2
            go_meet
            case rel => exact ⟨0, H, rfl, by omega, by omega, below_drewN (Below.refl _ _) _⟩
          case false =>
            have hq0 : ¬ q.data.toList = [] := fun e => by have := HBQ.out; rw [toList_nil.2 e] at this; cases this
            have hqp := size_pos hq0
            have hv1 : ∀ m', ((w.alloc (.cells #[.bool false, .string ⟨#[]⟩, .int .i64 0] 32)).drewN m').cell? ⟨1, 0, none⟩ = some ev := fun m' => cell_later (below_drewN ((Below.refl _ _).alloc (Nat.le_refl _) _) m') hv
            have HX : Hid (expOf pexp q.data.toList = pexp q.data.toList) := if_neg hq0
            clear hq0
            go_wp2_with fail
            refine (pe_any q _ (by omega) hqp ev (hv1 _) hev).mono ?_
            rintro e w4 ⟨rfl, hb4⟩
            have hb5 : Below (w.heap.size + 1) (w.alloc (.cells #[.bool false, .string ⟨#[]⟩, .int .i64 0] 32)) w4 := (below_drewN (Below.refl _ _) _).trans (hb4.mono (by simp))
            obtain ⟨c0, f0⟩ := res_cells hb5 0
            obtain ⟨c1, f1⟩ := res_cells hb5 1
            obtain ⟨c2, f2⟩ := res_cells hb5 2
            cases hx : pexp q.data.toList with
            | none =>
              have H : Hid (decP s.data.toList = no) := HD.out.trans (dec_no_exp HB.out HQ.out (HX.out.trans hx))
              clear hx
              go_wp2
              refine bodyPost_ret (v := .tuple #[.agg #[.bool false, .string ⟨#[]⟩, .int .i64 0], .bool false]) (by simp [results, Tryd.results17, go_sem, c0, c1, c2]) rfl ⟨_, _, _, _, rfl, by rw [H.out]; rfl, ?_⟩
              exact below_store3 (((Below.refl _ _).alloc (Nat.le_refl _) _).trans (hb5.mono (by omega))) (Nat.le_refl _) _ _ _
            | some x =>
              have H : Hid (expOf pexp q.data.toList = some x) := HX.out.trans hx
              have hbd := pexp_bd hx
              clear hx
              go_wp2
              go_meet
              case rel => exact ⟨x, H, rfl, hbd.1, hbd.2, hb5⟩
        case rest =>
          obtain ⟨x, HX, rfl, hx1, hx2, hb5⟩ := hcut
          obtain ⟨c0, f0⟩ := res_cells hb5 0
          obtain ⟨c1, f1⟩ := res_cells hb5 1
          obtain ⟨c2, f2⟩ := res_cells hb5 2
          have HC : Hid (decP s.data.toList = canonP neg wh.data.toList fr.data.toList x) := by
            show decP s.data.toList = canonP neg wh.data.toList fr.data.toList x
            rw [HW.out]; exact HD.out.trans (dec_some HB.out HQ.out HX.out)
          have htl : (Lib.trimLeftB (wh.data.toList ++ fr.data.toList) 48).length ≤ wh.size + fr.size := by
            have : (Lib.trimLeftB (wh.data.toList ++ fr.data.toList) 48).length ≤ (wh.data.toList ++ fr.data.toList).length := (List.dropWhile_suffix _).length_le
            rw [List.length_append, ← Lib.size_eq, ← Lib.size_eq] at this; exact this
          go_wp2_with fail
          refine (tl1_any _ _).mono ?_
          rintro e w5 ⟨t, rfl, ht, rfl⟩
          have ht2 : t.data.toList = Lib.trimLeftB (wh.data.toList ++ fr.data.toList) 48 := by rw [ht]; simp
          have htz : t.size ≤ wh.size + fr.size := by rw [Lib.size_eq, ht2]; exact htl
          have HT : Hid (t.data.toList = Lib.trimLeftB (wh.data.toList ++ fr.data.toList) 48) := ht2
          clear ht ht2 htl
          by_cases ht0 : t.data.toList = []
          · have k2 : t.toList.isEmpty = true := toList_nil.2 ht0
            have H : Hid (decP s.data.toList = zero) := by
              show decP s.data.toList = zero
              rw [HC.out]; exact canonP_zero (HT.out ▸ ht0)
            clear ht0
            go_wp2_with fail
            refine bodyPost_ret (v := .tuple #[.agg #[.bool false, .string ⟨#[]⟩, .int .i64 0], .bool true]) (by simp [results, Tryd.results17, go_sem, c0, c1, c2]) rfl ⟨_, _, _, _, rfl, by rw [H.out]; rfl, ?_⟩
            exact below_store3 (((Below.refl _ _).alloc (Nat.le_refl _) _).trans (hb5.mono (by omega))) (Nat.le_refl _) _ _ _
          · have k2 : t.toList.isEmpty = false := toList_not ht0
            have HT0 : Hid (¬ t.data.toList = []) := ht0
            clear ht0
            go_wp2_with fail
            refine (tr1_any _ _ (by omega)).mono ?_
            rintro e w5 ⟨d, rfl, hd, rfl⟩
            have HDD : Hid (d.data.toList = Lib.trimRightB t.data.toList 48) := hd
            clear hd
            go_wp2_with fail
            refine bodyPost_ret (v := .tuple #[.agg #[.bool neg, .string d, .int .i64 ((wh.size : Int) - ((wh.size : Int) + fr.size - t.size) + x)], .bool true]) (by simp [results, Tryd.results17, go_sem, c0, c1, c2]) rfl ⟨_, _, _, _, rfl, ?_, ?_⟩
            · rw [HC.out, canonP_some (HT.out ▸ HT0.out), ← HT.out, HDD.out, List.length_append, ← Lib.size_eq, ← Lib.size_eq, ← Lib.size_eq, Int.natCast_add]
            · exact below_store3 (((Below.refl _ _).alloc (Nat.le_refl _) _).trans (hb5.mono (by omega))) (Nat.le_refl _) _ _ _
end Go.Proofs.Qxb6600609aDoor
