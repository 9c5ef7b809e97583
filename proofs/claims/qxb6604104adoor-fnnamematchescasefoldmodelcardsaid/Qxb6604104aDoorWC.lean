import Derived.Test.Qxb6604104aDoorWB
namespace Go.Proofs.Qxb6604104aDoor
open Go.RowKit
set_option linter.unusedSimpArgs false
set_option linter.unusedVariables false

theorem mkd_same {s key r r' : ByteArray} {f : Nat} (hr : r.size = s.size) (hr' : r'.size = s.size) (hm : Mkd s key f (s.size + 1) (bt r)) (hm' : Mkd s key f (s.size + 1) (bt r')) : r = r' := by
  refine bt_ext (hr.trans hr'.symm) fun j hj => ?_
  by_cases hc : Cov s key (s.size + 1) j
  · rw [(hm j (by omega)).1 hc, (hm' j (by omega)).1 hc]
  · rw [(hm j (by omega)).2 hc, (hm' j (by omega)).2 hc]
set_option maxRecDepth 100000 in
set_option maxHeartbeats 2000000 in
theorem fold_law (key s : ByteArray) (w : World) (hk : key.size ≤ maxLen) (hs : s.size ≤ maxLen) (ht : Tabs w) :
    Calls Tryd.prog 3 #[.string key, .string s] w fun e w' => e = .returned (.bool true) ∧ Below w.heap.size w w' := by
  have hk' : (key.size : Int) ≤ 9223372036854775807 := by unfold maxLen at hk; omega
  have hs' : (s.size : Int) ≤ 9223372036854775807 := by unfold maxLen at hs; omega
  have HT : Hid (Tabs w) := ht
  clear ht
  go_enter Tryd.func3, Tryd.ntmps3
  go_wp2_with fail
  refine (zz5 key s w hk' hs').mono ?_
  rintro e w1 ⟨⟨b, rfl, hb⟩, hw⟩
  rw [hw]
  clear hw hb
  cases b with
  | false =>
    go_wp2_with fail
    go_ret
    exact ⟨rfl, Below.refl _ _⟩
  | true =>
    by_cases h1 : key.size ≤ 4096
    · have k1 : (key.size : Int) ≤ 4096 := by omega
      by_cases h2 : s.size ≤ 65536
      · have k2 : (s.size : Int) ≤ 65536 := by omega
        go_wp2_with fail
        refine (ascii_any key w (by omega)).mono ?_
        rintro e w1 ⟨⟨b, rfl, hb⟩, hw⟩
        rw [hw]
        clear hw
        cases b with
        | false =>
          clear hb
          go_wp2_with fail
          go_ret
          exact ⟨rfl, Below.refl _ _⟩
        | true =>
          have HA : Hid (Asc key) := hb.1 rfl
          clear hb
          go_wp2_with fail
          refine (zname_any key s w h2 HA.out h1 HT.out).mono ?_
          rintro e w2 ⟨r, rfl, hr, hm, hb2⟩
          have HR : Hid (r.size = s.size) := hr
          have HM : Hid (Mkd s key (fk key) (s.size + 1) (bt r)) := hm
          have HB2 : Hid (Below w.heap.size w w2) := hb2
          clear hr hm hb2
          go_wp2_with fail
          refine (model_any key s w2 h2 h1).mono ?_
          rintro e w3 ⟨r', rfl, hr', hm', hb3⟩
          have HB3 : Hid (Below w.heap.size w w3) := HB2.out.trans (hb3.mono HB2.out.size)
          obtain rfl := mkd_same HR.out hr' HM.out hm'
          clear hr' hm' hb3
          go_wp2_with fail
          go_ret
          exact ⟨by simp, HB3.out⟩
      · have k2 : ¬ (s.size : Int) ≤ 65536 := by omega
        go_wp2_with fail
        go_ret
        exact ⟨rfl, Below.refl _ _⟩
    · have k1 : ¬ (key.size : Int) ≤ 4096 := by omega
      go_wp2_with fail
      go_ret
      exact ⟨rfl, Below.refl _ _⟩
end Go.Proofs.Qxb6604104aDoor
