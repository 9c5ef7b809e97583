import Derived.Test.Qxb6600609aDoorW4
import Derived.Test.Qxb6600609aDoorW6
import Derived.Test.Qxb6600609aDoorRows
import Derived.Test.Qxb6600609aDoorTie
import Derived.Test.Qxb6600609aDoorCards
import Derived.ProofKit
import Derived.Lay
import Derived.LaidLaws
import Derived.Stop.LaidErr
import Derived.LaidOnce
import Derived.SevenTiedAt
namespace Go.Proofs.Qxb6600609aDoor
open Go.RowKit Go.ChangeShapes Go.WideShapes Go.ChangeAt
open Go.ChangeMaps (open_string shut_string)
set_option linter.unusedSimpArgs false
set_option linter.unusedVariables false

set_option maxHeartbeats 1000000 in
theorem law_long (s : ByteArray) (w : World) (hs : s.size ≤ maxLen) (h : 1048576 < s.size) :
    Calls Tryd.prog 3 #[.string s] w fun e w' => e = .returned (.bool true) ∧ Below w.heap.size w w' := by
  go_enter Tryd.func3, Tryd.ntmps3
  go_wp2_with fail
  refine (zb_no s _ hs h).mono ?_
  rintro e w1 ⟨rfl, rfl⟩
  go_wp2_with fail
  go_ret
  exact ⟨rfl, Below.refl _ _⟩
set_option maxHeartbeats 1000000 in
theorem law_short (s : ByteArray) (w : World) (hs : s.size ≤ 1048576) (ev : Value) (hv : w.cell? ⟨1, 0, none⟩ = some ev) (hev : ev = .nilIface ∨ ∃ te pe, ev = .iface te pe) :
    Calls Tryd.prog 3 #[.string s] w fun e w' => e = .returned (.bool true) ∧ Below w.heap.size w w' := by
  go_enter Tryd.func3, Tryd.ntmps3
  go_wp2_with fail
  refine (zb_yes s _ hs).mono ?_
  rintro e w1 ⟨rfl, rfl⟩
  go_wp2_with fail
  refine (zz_any s _ hs ev hv hev).mono ?_
  rintro e w1 ⟨neg, d, x, ok, rfl, h1, hb1⟩
  have H1 : Hid ((neg, d.data.toList, x, ok) = decP s.data.toList) := h1
  clear h1
  go_wp2_with fail
  refine (md_any s _ hs).mono ?_
  rintro e w2 ⟨neg2, d2, x2, ok2, rfl, h2, n, rfl⟩
  have h3 := H1.out.trans ((decPM s.data.toList).trans h2.symm)
  simp only [Prod.mk.injEq] at h3
  obtain ⟨rfl, h4, rfl, rfl⟩ := h3
  have h5 : d = d2 := by
    obtain ⟨⟨l⟩⟩ := d; obtain ⟨⟨l2⟩⟩ := d2
    simp at h4; rw [h4]
  subst h5
  clear h2 h4 H1
  go_wp2_with fail
  go_ret
  exact ⟨rfl, below_drewN hb1 _⟩

/-- What the condition gives: the variable ErrRange holds an interface value. -/
theorem errRange_of_laid {W : World} (h : laidMet Tryd.prog Rows.fnParseDecimalMatchesGrammarModelRow.laid W) : ∃ u v, W.cell? ⟨1, 0, none⟩ = some (.iface u v) := by
  have h4 : laidMet Tryd.prog [("strconv.ErrRange", Rows.laid_strconv_ErrRange), ("strconv.ErrSyntax", Rows.laid_strconv_ErrSyntax), _] W := h.tail.tail.tail.tail
  obtain ⟨ps, ⟨g0, t0, cs0, f0, p0, q0, hg0, ht0, hv0, hd0, _, e0⟩, _, _⟩ := h4
  obtain rfl := Option.some.inj ((show Tryd.prog.globalNamed "strconv.ErrRange" = some 1 by kernel_rfl).symm.trans hg0)
  obtain rfl := Option.some.inj ((show (Tryd.prog.globals[1]?).map (·.type) = some 44 by kernel_rfl).symm.trans ht0)
  obtain ⟨f1, u, v, hcs, _, _⟩ := iface_of_trod Tryd.underlying44 hd0
  obtain ⟨l0⟩ := cs0
  have hcs' : l0 = [.iface u v] := hcs
  subst hcs'
  exact ⟨u, v, by simpa using World.var?_cell hg0 hv0 0⟩

theorem own : ownKnob Tryd.prog.godebug = none := by kernel_rfl
set_option maxRecDepth 100000 in
theorem lifted (os : Os) (started : os.Started) (H : Type) (enc : TypeId × Value → H) :
    ReturnsInHanded {} Tryd.checked os 3 .any (fun w args => (Rows.fnParseDecimalMatchesGrammarModelSpec.pre enc Tryd.prog Tryd.f3 [] false w args ∧ laidMetH Tryd.prog Rows.fnParseDecimalMatchesGrammarModelRow.laid w) ∧ sizedMet enc Tryd.prog Tryd.f3 (OpenSpec.ofChange Rows.fnParseDecimalMatchesGrammarModelSpec) false w args)
      (Rows.fnParseDecimalMatchesGrammarModelSpec.post enc Tryd.prog Tryd.f3 false true false false) := by
  refine returnsInHanded_of_change_and (C := Tryd.checked) (X := fun w _ => laidMetH Tryd.prog Rows.fnParseDecimalMatchesGrammarModelRow.laid w) (fun _ _ _ hh h => h.of_heap hh) own started (by kernel_rfl) Tryd.func3
    (ChangeSpec.witness_shaped (enc := enc) (C := Tryd.checked) (os := os) (X := fun w _ => laidMetH Tryd.prog Rows.fnParseDecimalMatchesGrammarModelRow.laid w) false (World.laidAll Tryd.prog os Rows.fnParseDecimalMatchesGrammarModelRow.laid) #[.string ⟨#[]⟩] 8 (World.laidAll_os _ _ _)
      (World.shaped_of_ZipB (by kernel_rfl) (by kernel_rfl)) (by kernel_rfl) (by kernel_rfl) (by kernel_rfl)
      (by rw [MakeChecks.laidMetH_plain _ _ _ (by kernel_rfl)]; exact laidMet_laidAll _ (by kernel_rfl) (by kernel_rfl))) ?_
  intro W base args ds gs before hval0 hW _ _ hL _
  have hval : ∀ (j : Nat) t v, Tryd.f3.params[j]? = some t → args[j]? = some v → Value.okWide Tryd.prog W .any base t v := hval0
  have hW' := hW
  obtain ⟨p, q, hA0, hV, rfl, _, _⟩ := hW
  have hA : DataW.TrodAll enc Tryd.prog W 0 (fun _ => true) true Tryd.f3.params.toList args.toList ds p := hA0
  rw [Tryd.params3] at hA hval
  obtain ⟨v0, d0, rfl, rfl, h0⟩ := trodAll_one hA
  obtain ⟨rfl, rfl⟩ := trodVars_none hV
  obtain ⟨s, rfl, rfl, rfl, hs⟩ := open_string Tryd.underlying9 (hval 0 9 v0 rfl rfl) h0
  simp only [List.append_nil] at hW'
  rw [MakeChecks.laidMetH_plain _ _ _ (by kernel_rfl)] at hL
  obtain ⟨eu, evv, hev⟩ := errRange_of_laid hL
  have hlaw : Calls Tryd.prog 3 #[.string s] W fun e w' => e = .returned (.bool true) ∧ Below W.heap.size W w' := by
    by_cases hz : s.size ≤ 1048576
    · exact law_short s W hz _ hev (.inr ⟨eu, evv, rfl⟩)
    · exact law_long s W hs (by omega)
  refine hlaw.mono fun e W' ⟨he, hb⟩ => ?_
  subst he
  exact ⟨_, rfl, _, _, _, [], [], [], hW', trodAll_mk1 (shut_bool Tryd.underlying4 _), trodAll_mk1 (shut_string Tryd.underlying9 hs), rfl, hb.frame _, fun h => by cases h⟩

theorem row_holds : Rows.FnParseDecimalMatchesGrammarModelSaid :=
  OpenClaim.holds_of_wide 3 Tryd.f3 rfl rfl rfl rfl rfl rfl rfl ⟨rfl, rfl, rfl, rfl, rfl⟩ rfl rfl rfl rfl rfl (by kernel_rfl) Tryd.func3 (by kernel_rfl)
    (of_decide_eq_true (by kernel_rfl)) (by unfold Func.isWrapper; first | (rw [if_pos (by decide +kernel)]; kernel_rfl) | (rw [if_neg (by decide +kernel)]; exact ⟨rfl, rfl⟩))
    (fun os started H enc _ => lifted os started H enc)

/-- THE CARD. -/
theorem card_holds : Rows.FnParseDecimalMatchesGrammarModelCardSaid :=
  Claim7.holds_tied_plain_at .later [] [.data, .data, .data, .data, .called, .called, .pinned] true Rows.fnParseDecimalMatchesGrammarModelCard.stood.harness true
    row_holds (fun _ h => by cases h) (by kernel_rfl) (fun _ h => by cases h) fnParseDecimalMatchesGrammarModel_row_tie rfl ⟨rfl, rfl⟩ (by kernel_rfl) rfl
    (fun f fn hf hfn => by
      obtain rfl : f = 3 := Option.some.inj ((show Tryd.prog.funcNamed Rows.fnParseDecimalMatchesGrammarModelRow.func = some 3 by kernel_rfl).symm.trans hf) |>.symm
      obtain rfl : fn = Tryd.f3 := (Option.some.inj (Tryd.func3.symm.trans hfn)).symm
      exact ⟨by kernel_rfl, fun j t ht => by
        rw [Tryd.params3] at ht
        have hm : t ∈ [9] := by simpa using Array.mem_of_getElem? ht
        have hall : ([9].all fun u => !Tryd.prog.wantsStandIn u) = true := by kernel_rfl
        exact (show Tryd.prog.wantsStandIn t = false by simpa using List.all_eq_true.1 hall t hm)⟩)
    (by kernel_rfl)
end Go.Proofs.Qxb6600609aDoor
