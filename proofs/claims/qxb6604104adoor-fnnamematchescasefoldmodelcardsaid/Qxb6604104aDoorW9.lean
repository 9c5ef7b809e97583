import Derived.Test.Qxb6604104aDoorW7
import Derived.Test.Qxb6604104aDoorW8
namespace Go.Proofs.Qxb6604104aDoor
open Go.RowKit
set_option linter.unusedSimpArgs false
set_option linter.unusedVariables false

/-- The fill is no byte of the key up to case. -/
def Clear (key : ByteArray) : Prop := ∀ t, t < key.size → low (bt key t) ≠ low (fk key)
theorem clear_any (key : ByteArray) (w : World) (hs : key.size ≤ 4096) :
    Calls Tryd.prog 10 #[.string key] w fun e w' => RetB e (Clear key) ∧ Below w.heap.size w w' := by
  have c1 := fwbFill_any key w hs
  have c2 := lower_any (fk key) (fk_lt key)
  obtain ⟨F, hF⟩ : ∃ F, fk key = F := ⟨_, rfl⟩
  rw [hF] at c1 c2
  obtain ⟨L, hL⟩ : ∃ L, low F = L := ⟨_, rfl⟩
  rw [hL] at c2
  have HL : Hid (low (fk key) = L) := by show low (fk key) = L; rw [hF, hL]
  clear hF hL
  go_enter Tryd.func10, Tryd.ntmps10
  go_wp2_with fail
  refine c1.mono ?_
  rintro e w1 ⟨rfl, hb⟩
  have HB : Hid (Below w.heap.size w w1) := hb
  clear hb c1
  go_wp2_with fail
  refine (c2 w1).mono ?_
  rintro e w2 ⟨rfl, hw⟩
  rw [hw]
  clear hw
  clear c2
  go_wp2_with fail
  go_loop [4] (fun x => ∃ i : Nat, i ≤ key.size ∧ x = .int .i64 i ∧ Hid (∀ t, t < i → low (bt key t) ≠ L)) (fun x => key.size - (intOf x).toNat)
  case atStart => exact ⟨0, Nat.zero_le _, rfl, fun j hj => absurd hj (by omega)⟩
  case round =>
    obtain ⟨i, hi, rfl, hlo⟩ := hrel
    by_cases h1 : i < key.size
    · have h3 : (i : Int) < (key.size : Int) := by omega
      obtain ⟨y, hy⟩ : ∃ y, key[i].toNat = y := ⟨_, rfl⟩
      have c3 := lower_any y (hy ▸ UInt8.toNat_lt _) w1
      obtain ⟨Y, hY⟩ : ∃ Y, low y = Y := ⟨_, rfl⟩
      rw [hY] at c3
      have HY : Hid (low (bt key i) = Y) := by show low (bt key i) = Y; rw [bt_eq h1, hy, hY]
      clear hY
      by_cases hYL : Y = L
      · have k : ((Y : Int) == (L : Int)) = true := by rw [hYL]; simp
        have HYL : Hid (Y = L) := hYL
        clear hYL
        go_wp2_with (go_at_call 15; refine c3.mono ?_; rintro e w' ⟨rfl, hww⟩; rw [hww]; clear hww w')
        go_ret
        exact ⟨.no rfl fun h => h i h1 (by rw [HY.out, HL.out]; exact HYL.out), HB.out⟩
      · have k : ((Y : Int) == (L : Int)) = false := beq_eq_false_iff_ne.2 (by omega)
        have HYL : Hid (¬ Y = L) := hYL
        clear hYL
        go_wp2_with (go_at_call 15; refine c3.mono ?_; rintro e w' ⟨rfl, hww⟩; rw [hww]; clear hww w')
        refine ⟨⟨i + 1, by omega, by go_num, fun t ht => ?_⟩, by simp [intOf]; omega⟩
        by_cases e : t = i
        · rw [e, HY.out]; exact HYL.out
        · exact hlo.out t (by omega)
    · have h3 : ¬ (i : Int) < (key.size : Int) := by omega
      go_wp2
      go_ret
      exact ⟨.yes rfl fun t ht => by rw [HL.out]; exact hlo.out t (by omega), HB.out⟩
theorem zz5 (key s : ByteArray) (w : World) (hk : (key.size : Int) ≤ 9223372036854775807) (hs : (s.size : Int) ≤ 9223372036854775807) :
    Calls Tryd.prog 5 #[.string key, .string s] w fun e w' => RetB e (key.size + s.size ≤ 1048576) ∧ w' = w := by
  by_cases h1 : (key.size : Int) ≤ 1048576
  · by_cases h2 : (s.size : Int) ≤ 1048576
    · by_cases h3 : (key.size : Int) + (s.size : Int) ≤ 1048576
      · go_enter Tryd.func5, Tryd.ntmps5
        go_wp2
        go_ret
        exact ⟨.yes rfl (by omega), rfl⟩
      · go_enter Tryd.func5, Tryd.ntmps5
        go_wp2
        go_ret
        exact ⟨.no rfl (by omega), rfl⟩
    · go_enter Tryd.func5, Tryd.ntmps5
      go_wp2
      go_ret
      exact ⟨.no rfl (by omega), rfl⟩
  · go_enter Tryd.func5, Tryd.ntmps5
    go_wp2
    go_ret
    exact ⟨.no rfl (by omega), rfl⟩
theorem zz9 (key s : ByteArray) (w : World) (hk : (key.size : Int) ≤ 9223372036854775807) (hs : (s.size : Int) ≤ 9223372036854775807) :
    Calls Tryd.prog 9 #[.string key, .string s] w fun e w' => RetB e (key.size + s.size ≤ 1048576) ∧ w' = w := by
  by_cases h1 : (key.size : Int) ≤ 1048576
  · by_cases h2 : (s.size : Int) ≤ 1048576
    · by_cases h3 : (key.size : Int) + (s.size : Int) ≤ 1048576
      · go_enter Tryd.func9, Tryd.ntmps9
        go_wp2
        go_ret
        exact ⟨.yes rfl (by omega), rfl⟩
      · go_enter Tryd.func9, Tryd.ntmps9
        go_wp2
        go_ret
        exact ⟨.no rfl (by omega), rfl⟩
    · go_enter Tryd.func9, Tryd.ntmps9
      go_wp2
      go_ret
      exact ⟨.no rfl (by omega), rfl⟩
  · go_enter Tryd.func9, Tryd.ntmps9
    go_wp2
    go_ret
    exact ⟨.no rfl (by omega), rfl⟩
/-- Where the masked string holds no match. -/
theorem no_match {s key r : ByteArray} (hr : r.size = s.size) (hm : Mkd s key (fk key) (s.size + 1) (bt r)) (hc : Clear key) (h0 : 0 < key.size) (j : Nat) (hj : j + key.size ≤ r.size) : ¬ Mt r key j := by
  intro hmt
  have hnc : ∀ t, t < key.size → ¬ Cov s key (s.size + 1) (j + t) := by
    intro t ht hcov
    have h1 := hmt t ht
    rw [(hm (j + t) (by omega)).1 hcov] at h1
    exact hc t ht h1.symm
  have hms : Mt s key j := by
    intro t ht
    rw [← (hm (j + t) (by omega)).2 (hnc t ht)]
    exact hmt t ht
  exact hnc 0 h0 ⟨j, by omega, by omega, hms, by omega, by omega⟩
theorem bt_ext {a b : ByteArray} (hz : a.size = b.size) (h : ∀ j, j < a.size → bt a j = bt b j) : a = b := by
  apply ByteArray.ext
  apply Array.ext
  · exact hz
  · intro i h1 h2
    have := h i h1
    rw [bt_eq h1, bt_eq h2] at this
    exact UInt8.toNat_inj.1 this
theorem same_again {s key r r' : ByteArray} (hr : r.size = s.size) (hm : Mkd s key (fk key) (s.size + 1) (bt r)) (hc : Clear key) (hr' : r'.size = r.size) (hm' : Mkd r key (fk key) (r.size + 1) (bt r')) : r' = r := by
  refine bt_ext hr' fun j hj => (hm' j (by omega)).2 ?_
  rintro ⟨k, h1, h2, h3, h4, h5⟩
  exact no_match hr hm hc (by omega) k h2 h3
end Go.Proofs.Qxb6604104aDoor
