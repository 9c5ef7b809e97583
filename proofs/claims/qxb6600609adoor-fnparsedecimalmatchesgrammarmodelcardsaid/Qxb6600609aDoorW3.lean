import Derived.Test.Qxb6600609aDoorW1
import Derived.Test.Qxb6600609aDoorW2
import Derived.Test.Qxb6600609aDoorPlain2
import Derived.Test.Qxb6600609aDoorShelf
import Derived.Shelf.Strings.SlTrimAscii
import Derived.WalkKit
import Derived.WalkSpells
import Derived.WalkLawsBesides
import Derived.Handy
namespace Go.Proofs.Qxb6600609aDoor
open Go.RowKit
set_option linter.unusedSimpArgs false
set_option linter.unusedVariables false

theorem tl_set (s : ByteArray) (w : World) :
    Calls Tryd.prog 21 #[.string s, .string ⟨#[43, 45]⟩] w fun e w' => ∃ t : ByteArray, e = .returned (.string t) ∧ t.data.toList = Lib.trimLeftS s.data.toList [43, 45] ∧ Below w.heap.size w w' :=
  (Any.strings_TrimLeft_laid Tryd.lays161 (by kernel_rfl) s ⟨#[43, 45]⟩ w (by decide) (ascii_of_all (by decide))).mono fun e w' ⟨he, hb⟩ => ⟨_, he, rfl, hb⟩
theorem pi_any (s : ByteArray) (w : World) (hs : s.size ≤ 1048576) (hg : good s.data.toList) (ev : Value) (hv : w.cell? ⟨1, 0, none⟩ = some ev) (hev : ev = .nilIface ∨ ∃ te pe, ev = .iface te pe) :
    Calls Tryd.prog 23 #[.string s, .int .i64 10, .int .i64 64] w fun e w' => ∃ x, e = .returned (.tuple #[.int .i64 (pint s.data.toList), x]) ∧ Below w.heap.size w w' := by
  rcases hg with ⟨v, h⟩ | h
  · refine (Tryd.strconv_ParseInt_10_at64_ok s (by omega) v h w).mono fun e w' ⟨he, hw⟩ => ?_
    refine ⟨.nilIface, by rw [he]; simp only [pint, h], ?_⟩
    rcases hw with rfl | ⟨t, rfl⟩
    · exact Below.refl _ _
    · exact Lib.bytesWorld_below _ _ _
  · refine (Tryd.strconv_ParseInt_10_at64_range s (by omega) h ev w hv hev).mono fun e w' ⟨N, he, _, _, hb⟩ => ?_
    exact ⟨.iface 63 (.pointer (some ⟨N, 0, none⟩)), by rw [he]; simp only [pint, h], hb⟩
theorem tp_any (s : ByteArray) (w : World) :
    Calls Tryd.prog 24 #[.string s, .string ⟨#[43]⟩] w fun e w' => ∃ t : ByteArray, e = .returned (.string t) ∧ t.data.toList = Lib.trimPrefix s.data.toList [43] ∧ w' = w :=
  (Tryd.strings_TrimPrefix s ⟨#[43]⟩ w).mono fun e w' ⟨he, hb⟩ => ⟨_, he, rfl, hb⟩
theorem toList_nil {s : ByteArray} : s.toList.isEmpty = true ↔ s.data.toList = [] := by rw [Lib.toList_data, List.isEmpty_iff]
theorem toList_not {s : ByteArray} (h : s.data.toList ≠ []) : s.toList.isEmpty = false := by
  cases e : s.toList.isEmpty with
  | false => rfl
  | true => exact absurd (toList_nil.1 e) h
theorem tpx_len (r p : List UInt8) : (Lib.trimPrefix r p).length ≤ r.length := by
  unfold Lib.trimPrefix; split
  · simp
  · exact Nat.le_refl _
theorem bcell {W w1 : World} (hb : Below W.heap.size W w1) {a : Addr} {v : Value} (h : W.cell? a = some v) : w1.cell? a = some v := cell_later hb h

set_option maxHeartbeats 1000000 in
theorem pe_no (s : ByteArray) (w : World) (hs : s.size ≤ 1048576) (h0 : 0 < s.size) (h1 : ¬ (s[0].toNat : Int) = 101) (h2 : ¬ (s[0].toNat : Int) = 69) :
    Calls Tryd.prog 18 #[.string s] w fun e w' => e = .returned (.tuple #[.int .i64 ((pexp s.data.toList).getD 0), .bool (pexp s.data.toList).isSome]) ∧ Below w.heap.size w w' := by
  have b1 : ((s[0].toNat : Int) != 101) = true := by simpa using h1
  have b2 : ((s[0].toNat : Int) != 69) = true := by simpa using h2
  have H : Hid (pexp s.data.toList = none) := by
    show pexp s.data.toList = none
    rw [pexp_eq]; exact mexp_no s (.inr ⟨h0, h1, h2⟩)
  clear h1 h2
  go_enter Tryd.func18, Tryd.ntmps18
  go_wp2
  go_ret2
  exact ⟨ret_ib (by rw [H.out]; rfl) (by rw [H.out]; rfl), Below.refl _ _⟩

set_option maxHeartbeats 1000000 in
theorem pe_yes (s : ByteArray) (w : World) (hs : s.size ≤ 1048576) (h0 : 0 < s.size) (he : (s[0].toNat : Int) = 101 ∨ (s[0].toNat : Int) = 69) (ev : Value) (hv : w.cell? ⟨1, 0, none⟩ = some ev) (hev : ev = .nilIface ∨ ∃ te pe, ev = .iface te pe) :
    Calls Tryd.prog 18 #[.string s] w fun e w' => e = .returned (.tuple #[.int .i64 ((pexp s.data.toList).getD 0), .bool (pexp s.data.toList).isSome]) ∧ Below w.heap.size w w' := by
  have be : (((s[0].toNat : Int) != 101) = false) ∨ (((s[0].toNat : Int) != 101) = true ∧ ((s[0].toNat : Int) != 69) = false) := by
    rcases he with he | he
    · exact .inl (by rw [he]; rfl)
    · exact .inr ⟨by rw [he]; rfl, by rw [he]; rfl⟩
  have HP : Hid (pexp s.data.toList = pexpR (s.data.toList.drop 1)) := by
    show pexp s.data.toList = pexpR (s.data.toList.drop 1)
    have e0 := list_cons s 0 h0
    rw [List.drop_zero] at e0
    have hc : s[0] = 101 ∨ s[0] = 69 := he.elim (fun h => .inl (u8_eq 101 h)) (fun h => .inr (u8_eq 69 h))
    rw [e0]; simp only [pexp, if_pos hc, List.drop_succ_cons, List.drop_zero]
  have hx : (s.extract 1 s.size).data.toList = s.data.toList.drop 1 := by
    rw [Lib.extract_data, List.take_of_length_le (by simp)]
  have hxl : (s.data.toList.drop 1).length = s.size - 1 := by rw [List.length_drop, ← Lib.size_eq]
  clear he
  rcases be with be | ⟨be, be2⟩
  all_goals
    go_enter Tryd.func18, Tryd.ntmps18
    go_wp2_with fail
    refine (tl_set _ _).mono ?_
    rintro e w1 ⟨t, rfl, ht, hb1⟩
    rw [hx] at ht
    have htz : t.size ≤ 1048576 := by
      have := trimS_len (s.data.toList.drop 1) [43, 45]
      rw [← ht, ← Lib.size_eq, hxl] at this; omega
    go_wp2_with fail
    refine (ld_any t _ htz).mono ?_
    rintro e w2 ⟨d, r, rfl, hd, hr, n, rfl⟩
    rw [ht] at hd hr
    have hds : (d.size : Int) ≤ (s.size - 1 : Nat) := by
      have h1 := ld_len (Lib.trimLeftS (s.data.toList.drop 1) [43, 45])
      have h2 := trimS_len (s.data.toList.drop 1) [43, 45]
      rw [← hd, ← Lib.size_eq] at h1; omega
    have hdl : ((ld (Lib.trimLeftS (s.data.toList.drop 1) [43, 45])).length : Int) = d.size := by rw [← hd, ← Lib.size_eq]
    by_cases c1 : ld (Lib.trimLeftS (s.data.toList.drop 1) [43, 45]) = []
    · have H : Hid (pexp s.data.toList = none) := HP.out.trans (pexpR_none (.inl c1))
      have k1 : d.toList.isEmpty = true := toList_nil.2 (hd.trans c1)
      clear hd hr ht hx hxl hdl c1
      go_wp2_with fail
      go_ret2
      exact ⟨ret_ib (by rw [H.out]; rfl) (by rw [H.out]; rfl), below_drewN hb1 _⟩
    · have k1 : d.toList.isEmpty = false := toList_not (by rw [hd]; exact c1)
      by_cases c2 : rd (Lib.trimLeftS (s.data.toList.drop 1) [43, 45]) = []
      · have k2 : r.toList.isEmpty = true := toList_nil.2 (hr.trans c2)
        by_cases c3 : 1 < ((s.data.toList.drop 1).length : Int) - (ld (Lib.trimLeftS (s.data.toList.drop 1) [43, 45])).length
        · have H : Hid (pexp s.data.toList = none) := HP.out.trans (pexpR_none (.inr (.inr c3)))
          rw [hxl, hdl] at c3
          clear hd hr ht hx hxl hdl c1 c2
          go_wp2_with fail
          go_ret2
          exact ⟨ret_ib (by rw [H.out]; rfl) (by rw [H.out]; rfl), below_drewN hb1 _⟩
        · have H : Hid (pexp s.data.toList = some (clampE (pint (Lib.trimPrefix (s.data.toList.drop 1) [43])))) := HP.out.trans (pexpR_some c1 c2 c3)
          have hgood := good_exp _ c1 c2 c3
          rw [hxl, hdl] at c3
          have hbd := pint_bd (Lib.trimPrefix (s.data.toList.drop 1) [43])
          have hv1 : ∀ m, (w1.drewN m).cell? ⟨1, 0, none⟩ = some ev := fun m => bcell (below_drewN hb1 m) hv
          clear hd hr ht hdl c1 c2
          go_wp2_with fail
          refine (tp_any _ _).mono ?_
          rintro e w2 ⟨q, rfl, hq, rfl⟩
          rw [hx] at hq
          have hqz : q.size ≤ 1048576 := by
            have := tpx_len (s.data.toList.drop 1) [43]
            rw [← hq, ← Lib.size_eq, hxl] at this; omega
          rw [← hq] at hgood hbd
          clear hx hxl
          go_wp2_with fail
          refine (pi_any q _ hqz hgood ev (hv1 _) hev).mono ?_
          rintro e w2 ⟨x, rfl, hb2⟩
          clear hgood hv1 hev
          go_wp2_with fail
          go_ret2
          refine ⟨ret_ib ?_ ?_, ?_⟩
          · rw [H.out]; simp only [Option.getD_some, clampE, List.drop_one]
          · rw [H.out]; rfl
          · exact (below_drewN hb1 _).trans (hb2.mono (below_drewN hb1 _).size)
      · have k2 : r.toList.isEmpty = false := toList_not (by rw [hr]; exact c2)
        have H : Hid (pexp s.data.toList = none) := HP.out.trans (pexpR_none (.inr (.inl c2)))
        clear hd hr ht hx hxl hdl c1 c2
        go_wp2_with fail
        go_ret2
        exact ⟨ret_ib (by rw [H.out]; rfl) (by rw [H.out]; rfl), below_drewN hb1 _⟩
/-- parseExponent of a text that is not empty. -/
theorem pe_any (s : ByteArray) (w : World) (hs : s.size ≤ 1048576) (h0 : 0 < s.size) (ev : Value) (hv : w.cell? ⟨1, 0, none⟩ = some ev) (hev : ev = .nilIface ∨ ∃ te pe, ev = .iface te pe) :
    Calls Tryd.prog 18 #[.string s] w fun e w' => e = .returned (.tuple #[.int .i64 ((pexp s.data.toList).getD 0), .bool (pexp s.data.toList).isSome]) ∧ Below w.heap.size w w' := by
  by_cases he : (s[0].toNat : Int) = 101 ∨ (s[0].toNat : Int) = 69
  · exact pe_yes s w hs h0 he ev hv hev
  · exact pe_no s w hs h0 (by omega) (by omega)
end Go.Proofs.Qxb6600609aDoor
