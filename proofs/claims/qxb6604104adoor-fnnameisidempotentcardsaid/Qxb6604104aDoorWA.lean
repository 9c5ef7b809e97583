import Derived.Test.Qxb6604104aDoorW9
namespace Go.Proofs.Qxb6604104aDoor
open Go.RowKit
set_option linter.unusedSimpArgs false
set_option linter.unusedVariables false

set_option maxRecDepth 100000 in
set_option maxHeartbeats 2000000 in
theorem idem_law (key s : ByteArray) (w : World) (hk : key.size ≤ maxLen) (hs : s.size ≤ maxLen) (ht : Tabs w) :
    Calls Tryd.prog 4 #[.string key, .string s] w fun e w' => e = .returned (.bool true) ∧ Below w.heap.size w w' := by
  have hk' : (key.size : Int) ≤ 9223372036854775807 := by unfold maxLen at hk; omega
  have hs' : (s.size : Int) ≤ 9223372036854775807 := by unfold maxLen at hs; omega
  have HT : Hid (Tabs w) := ht
  clear ht
  go_enter Tryd.func4, Tryd.ntmps4
  go_wp2_with fail
  refine (zz9 key s w hk' hs').mono ?_
  rintro e w1 ⟨⟨b, rfl, hb⟩, hw⟩
  rw [hw]
  clear hw hb
  cases b with
  | false =>
    go_wp2_with fail
    go_ret
    exact ⟨rfl, Below.refl _ _⟩
  | true =>
    by_cases h1 : key.size ≤ 4096
    · have k1 : (key.size : Int) ≤ 4096 := by omega
      have q1 : decide ((4096 : Int) < (key.size : Int)) = false := decide_eq_false (by omega)
      by_cases h2 : s.size ≤ 65536
      · have k2 : (s.size : Int) ≤ 65536 := by omega
        have q2 : decide ((65536 : Int) < (s.size : Int)) = false := decide_eq_false (by omega)
        go_wp2_with fail
        refine (ascii_any key w (by omega)).mono ?_
        rintro e w1 ⟨⟨b, rfl, hb⟩, hw⟩
        rw [hw]
        clear hw
        cases b with
        | false =>
          clear hb
          go_wp2_with fail
          go_ret
          exact ⟨rfl, Below.refl _ _⟩
        | true =>
          have HA : Hid (Asc key) := hb.1 rfl
          clear hb
          go_wp2_with fail
          refine (clear_any key w h1).mono ?_
          rintro e w1 ⟨⟨b, rfl, hb⟩, hb1⟩
          have HB1 : Hid (Below w.heap.size w w1) := hb1
          clear hb1
          cases b with
          | false =>
            clear hb
            go_wp2_with fail
            go_ret
            exact ⟨rfl, HB1.out⟩
          | true =>
            have HC : Hid (Clear key) := hb.1 rfl
            clear hb
            go_wp2_with fail
            refine (zname_any key s w1 h2 HA.out h1 (HT.out.later HB1.out)).mono ?_
            rintro e w2 ⟨r, rfl, hr, hm, hb2⟩
            have HR : Hid (r.size = s.size) := hr
            have HM : Hid (Mkd s key (fk key) (s.size + 1) (bt r)) := hm
            have HB2 : Hid (Below w.heap.size w w2) := HB1.out.trans (hb2.mono HB1.out.size)
            have k3 : ((r.size : Int) != (s.size : Int)) = false := by rw [hr]; simp
            have hr2 : r.size ≤ 65536 := by omega
            clear hr hm hb2
            have FIN : ∀ w3, Below w.heap.size w w3 → Calls Tryd.prog 7 #[.string key, .string r] w3 fun e w4 => e = .returned (.string r) ∧ Below w.heap.size w w4 := by
              intro w3 hb3
              refine (zname_any key r w3 hr2 HA.out h1 (HT.out.later hb3)).mono ?_
              rintro e w4 ⟨r', rfl, hr', hm', hb4⟩
              rw [same_again HR.out HM.out HC.out hr' hm']
              exact ⟨rfl, hb3.trans (hb4.mono hb3.size)⟩
            have HFIN : Hid (∀ w3, Below w.heap.size w w3 → Calls Tryd.prog 7 #[.string key, .string r] w3 fun e w4 => e = .returned (.string r) ∧ Below w.heap.size w w4) := FIN
            clear FIN
            by_cases h0 : key.size = 0
            · have k0 : ¬ (0 : Int) < (key.size : Int) := by omega
              go_wp2_with fail
              refine (HFIN.out w2 HB2.out).mono ?_
              rintro e w4 ⟨rfl, hb4⟩
              have HB4 : Hid (Below w.heap.size w w4) := hb4
              clear hb4
              go_wp2_with fail
              go_ret
              exact ⟨by simp, HB4.out⟩
            · have k0 : (0 : Int) < (key.size : Int) := by omega
              have q3 : decide (0 < key.size) = true := decide_eq_true (by omega)
              have HNO : Hid (∀ j, j + key.size ≤ r.size → ¬ Mt r key j) := fun j hj => no_match HR.out HM.out HC.out (by omega) j hj
              go_wp2_with fail
              go_loopw [6] (fun x wr => ∃ j n : Nat, x = .int .i64 j ∧ (j = 0 ∨ j + key.size ≤ r.size + 1) ∧ j ≤ 65537 ∧ wr = w2.drewN n) (fun x _ => r.size + 1 - (intOf x).toNat)
              case atStart => exact ⟨0, 0, rfl, .inl rfl, by omega, rfl⟩
              case round =>
                obtain ⟨j, n, rfl, hj, hj2, rfl⟩ := hrel
                obtain ⟨W, hW⟩ : ∃ W, w2.drewN n = W := ⟨_, rfl⟩
                have HW : Hid (w2.drewN n = W) := hW
                have HBW : Hid (Below w.heap.size w W) := by show Below w.heap.size w W; rw [← hW]; exact below_drewN HB2.out n
                have HJ : Hid (j = 0 ∨ j + key.size ≤ r.size + 1) := hj
                rw [hW]
                clear hW hj
                by_cases h4 : j + key.size ≤ r.size
                · have k4 : (j : Int) + (key.size : Int) ≤ (r.size : Int) := by omega
                  go_wp2_with fail
                  refine (foldmatch_any r j key W h4 hr2).mono ?_
                  rintro e w4 ⟨⟨b, rfl, hb⟩, m, hm⟩
                  have hbf : b = false := by
                    cases b with
                    | false => rfl
                    | true => exact absurd (hb.1 rfl) (HNO.out j h4)
                  subst hbf
                  rw [hm]
                  have HM2 : Hid (W.drewN m = w2.drewN (n + m)) := by show W.drewN m = w2.drewN (n + m); rw [← HW.out, World.drewN_drewN]
                  clear hb hm
                  go_wp2_with fail
                  refine ⟨⟨j + 1, n + m, by go_num, .inr (by omega), by omega, ?_⟩, by simp [intOf]; omega⟩
                  exact HM2.out
                · have k4 : ¬ (j : Int) + (key.size : Int) ≤ (r.size : Int) := by omega
                  go_wp2_with fail
                  refine (HFIN.out W HBW.out).mono ?_
                  rintro e w4 ⟨rfl, hb4⟩
                  have HB4 : Hid (Below w.heap.size w w4) := hb4
                  clear hb4
                  go_wp2_with fail
                  go_ret
                  exact ⟨by simp, HB4.out⟩
      · have k2 : ¬ (s.size : Int) ≤ 65536 := by omega
        go_wp2_with fail
        go_ret
        exact ⟨rfl, Below.refl _ _⟩
    · have k1 : ¬ (key.size : Int) ≤ 4096 := by omega
      go_wp2_with fail
      go_ret
      exact ⟨rfl, Below.refl _ _⟩
end Go.Proofs.Qxb6604104aDoor
