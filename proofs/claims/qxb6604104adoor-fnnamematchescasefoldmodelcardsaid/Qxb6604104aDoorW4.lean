import Derived.Test.Qxb6604104aDoorW3
namespace Go.Proofs.Qxb6604104aDoor
open Go.RowKit
set_option linter.unusedSimpArgs false
set_option linter.unusedVariables false

/-- It answers whether p. -/
def RetB (e : Ending) (p : Prop) : Prop := ∃ b : Bool, e = .returned (.bool b) ∧ (b = true ↔ p)
theorem RetB.no {e : Ending} {p : Prop} (h : e = .returned (.bool false)) (hp : ¬ p) : RetB e p := ⟨false, h, ⟨fun h => absurd h (by decide), fun h => absurd h hp⟩⟩
theorem RetB.yes {e : Ending} {p : Prop} (h : e = .returned (.bool true)) (hp : p) : RetB e p := ⟨true, h, ⟨fun _ => hp, fun _ => rfl⟩⟩

theorem lower_any (c : Nat) (hc : c < 256) (w : World) :
    Calls Tryd.prog 15 #[.int .u8 c] w fun e w' => e = .returned (.int .u8 (low c)) ∧ w' = w := by
  by_cases h : 65 ≤ c ∧ c ≤ 90
  · have h1 : (65 : Int) ≤ (c : Int) := by omega
    have h2 : (c : Int) ≤ 90 := by omega
    go_enter Tryd.func15, Tryd.ntmps15
    go_wp2
    go_ret
    exact ⟨by simp [low, h]; try omega, rfl⟩
  · by_cases h1 : 65 ≤ c
    · have h1 : (65 : Int) ≤ (c : Int) := by omega
      have h2 : ¬ (c : Int) ≤ 90 := by omega
      go_enter Tryd.func15, Tryd.ntmps15
      go_wp2
      go_ret
      exact ⟨by simp [low, h], rfl⟩
    · have h1 : ¬ (65 : Int) ≤ (c : Int) := by omega
      go_enter Tryd.func15, Tryd.ntmps15
      go_wp2
      go_ret
      exact ⟨by simp [low, h], rfl⟩

theorem ascii_any (s : ByteArray) (w : World) (hs : s.size ≤ 65536) :
    Calls Tryd.prog 6 #[.string s] w fun e w' => RetB e (Asc s) ∧ w' = w := by
  go_enter Tryd.func6, Tryd.ntmps6
  go_wp2
  go_loop [3] (fun x => ∃ i : Nat, i ≤ s.size ∧ x = .int .i64 i ∧ Hid (∀ (j : Nat) (h : j < s.size), j < i → s[j].toNat < 128)) (fun x => s.size - (intOf x).toNat)
  case atStart => exact ⟨0, Nat.zero_le _, rfl, fun j h hj => absurd hj (by omega)⟩
  case round =>
    obtain ⟨i, hi, rfl, hlo⟩ := hrel
    by_cases h1 : i < s.size
    · by_cases h2 : s[i].toNat < 128
      · have h3 : ¬ (128 : Int) ≤ (s[i].toNat : Int) := by omega
        go_wp2
        refine ⟨⟨i + 1, by omega, by go_num, fun j hj hji => ?_⟩, by simp [intOf]; omega⟩
        by_cases e : j = i
        · subst e; exact h2
        · exact hlo.out j hj (by omega)
      · have h3 : (128 : Int) ≤ (s[i].toNat : Int) := by omega
        go_wp2
        go_ret
        exact ⟨.no rfl fun h => absurd (h i h1) h2, rfl⟩
    · have h3 : ¬ (i : Int) < (s.size : Int) := by omega
      go_wp2
      go_ret
      exact ⟨.yes rfl fun j hj => hlo.out j hj (by omega), rfl⟩

set_option maxRecDepth 100000 in
theorem foldmatch_any (s : ByteArray) (j : Nat) (key : ByteArray) (w : World) (h : j + key.size ≤ s.size) (hs : s.size ≤ 65536) :
    Calls Tryd.prog 11 #[.string s, .int .i64 j, .string key] w fun e w' => RetB e (Mt s key j) ∧ ∃ n, w' = w.drewN n := by
  have hkz : key.size ≤ 65536 := by omega
  have hj : j ≤ 65536 := by omega
  go_enter Tryd.func11, Tryd.ntmps11
  go_wp2
  go_loopw [7] (fun x wr => ∃ t n : Nat, t ≤ key.size ∧ x = .int .i64 t ∧ wr = w.drewN n ∧ Hid (∀ t', t' < t → low (bt s (j + t')) = low (bt key t'))) (fun x _ => key.size - (intOf x).toNat)
  case atStart => exact ⟨0, 0, Nat.zero_le _, rfl, rfl, fun j hj => absurd hj (by omega)⟩
  case round =>
    obtain ⟨t, n, ht, rfl, rfl, hlo⟩ := hrel
    by_cases h1 : t < key.size
    · have h2 : j + t < s.size := by omega
      obtain ⟨W, hW⟩ : ∃ W, w.drewN n = W := ⟨_, rfl⟩
      rw [hW]
      obtain ⟨x, hx⟩ : ∃ x, s[j + t].toNat = x := ⟨_, rfl⟩
      obtain ⟨y, hy⟩ : ∃ y, key[t].toNat = y := ⟨_, rfl⟩
      have c1 := lower_any x (hx ▸ UInt8.toNat_lt _)
      have c2 := lower_any y (hy ▸ UInt8.toNat_lt _)
      have HE : Hid (low (bt s (j + t)) = low x ∧ low (bt key t) = low y) := ⟨by rw [bt_eq h2, hx], by rw [bt_eq h1, hy]⟩
      have HW : Hid (w.drewN n = W) := hW
      have i1 : (j : Int) + (t : Int) < (s.size : Int) := by omega
      have i2 : ((j : Int) + (t : Int)).toNat = j + t := by omega
      have i3 : (t : Int) < (key.size : Int) := by omega
      have i4 : IntKind.i64.wrap ((j : Int) + (t : Int)) = (j : Int) + (t : Int) := IntWalk.i64_in _ (by omega)
      have i5 : (0 : Int) ≤ (j : Int) + (t : Int) := by omega
      clear hW
      obtain ⟨X, hX⟩ : ∃ X, low x = X := ⟨_, rfl⟩
      obtain ⟨Y, hY⟩ : ∃ Y, low y = Y := ⟨_, rfl⟩
      rw [hX] at HE c1
      rw [hY] at HE c2
      clear hX hY
      by_cases hXY : X = Y
      · have k : ((X : Int) != (Y : Int)) = false := by rw [hXY]; simp
        have HXY : Hid (X = Y) := hXY
        clear hXY
        go_wp2_with fail
        go_quiet (first | (go_at_call_of 15 (Value.int .u8 (x : Int)); exact Calls.quiet_of_same (c1 _)) | (go_at_call_of 15 (Value.int .u8 (y : Int)); exact Calls.quiet_of_same (c2 _)))
        go_wp2_with fail
        refine ⟨⟨t + 1, n + nq, by omega, by go_num, by rw [← HW.out, World.drewN_drewN], fun t' ht' => ?_⟩, by simp [intOf]; omega⟩
        by_cases e : t' = t
        · rw [e, HE.out.1, HE.out.2]; exact HXY.out
        · exact hlo.out t' (by omega)
      · have k : ((X : Int) != (Y : Int)) = true := by rw [bne_iff_ne]; omega
        have HXY : Hid (¬ X = Y) := hXY
        clear hXY
        go_wp2_with fail
        go_quiet (first | (go_at_call_of 15 (Value.int .u8 (x : Int)); exact Calls.quiet_of_same (c1 _)) | (go_at_call_of 15 (Value.int .u8 (y : Int)); exact Calls.quiet_of_same (c2 _)))
        go_wp2_with fail
        go_ret
        exact ⟨.no rfl fun h => HXY.out (by rw [← HE.out.1, ← HE.out.2]; exact h t h1), n + nq, by rw [← HW.out, World.drewN_drewN]⟩
    · have h3 : ¬ (t : Int) < (key.size : Int) := by omega
      go_wp2
      go_ret
      exact ⟨.yes rfl fun t' ht' => hlo.out t' (by omega), n, rfl⟩

/-- The fill: the first byte from 42 on that the key lacks; k: how many are left to try. -/
def flA (key : ByteArray) : Nat → Nat
  | 0 => 42
  | k + 1 => if Lib.indexByte key.data.toList ((42 + (255 - k)) % 256).toUInt8 < 0 then (42 + (255 - k)) % 256 else flA key k
def fl (key : ByteArray) : Nat := flA key 256
theorem flA_lt (key : ByteArray) : ∀ k, flA key k < 256
  | 0 => by simp [flA]
  | k + 1 => by
    simp only [flA]
    split
    · omega
    · exact flA_lt key k
set_option maxRecDepth 100000 in
theorem fill_any (key : ByteArray) (w : World) :
    Calls Tryd.prog 16 #[.string key] w fun e w' => e = .returned (.int .u8 (fl key)) ∧ w' = w := by
  obtain ⟨F, hF⟩ : ∃ F, fl key = F := ⟨_, rfl⟩
  have HF : Hid (flA key 256 = F) := hF
  rw [hF]
  clear hF
  go_enter Tryd.func16, Tryd.ntmps16
  go_wp2
  go_loop [5] (fun x => ∃ i : Nat, i ≤ 256 ∧ x = .int .i64 i ∧ Hid (flA key (256 - i) = F)) (fun x => 256 - (intOf x).toNat)
  case atStart => exact ⟨0, Nat.zero_le _, rfl, HF⟩
  case round =>
    obtain ⟨i, hi, rfl, hfl⟩ := hrel
    by_cases h1 : i < 256
    · have h2 : (i : Int) < 256 := by omega
      have hst : flA key (256 - i) = if Lib.indexByte key.data.toList ((42 + i) % 256).toUInt8 < 0 then (42 + i) % 256 else flA key (256 - (i + 1)) := by
        have e : 256 - i = (256 - (i + 1)) + 1 := by omega
        rw [e, flA]
        have e2 : 255 - (256 - (i + 1)) = i := by omega
        rw [e2]
      have hcall := Tryd.strings_IndexByte key (((42 + i) % 256 : Nat) : Int) w
      have e3 : (((42 + i) % 256 : Nat) : Int).toNat = (42 + i) % 256 := by omega
      rw [e3] at hcall
      have hwr : IntKind.u8.wrap (42 + (i : Int)) = (((42 + i) % 256 : Nat) : Int) := by rw [IntKind.wrap_u8]; omega
      have HST : Hid (flA key (256 - i) = if Lib.indexByte key.data.toList ((42 + i) % 256).toUInt8 < 0 then (42 + i) % 256 else flA key (256 - (i + 1))) := hst
      have HV : Hid ((42 + i) % 256 = (42 + i) % 256) := rfl
      obtain ⟨V, hV⟩ : ∃ V, (42 + i) % 256 = V := ⟨_, rfl⟩
      rw [hV] at hcall HST hwr
      obtain ⟨R, hR⟩ : ∃ R, Lib.indexByte key.data.toList V.toUInt8 = R := ⟨_, rfl⟩
      rw [hR] at hcall HST
      clear hst e3 hV hR HV
      by_cases h3 : R < 0
      · go_wp2_with (go_at_call 20; refine hcall.mono ?_; rintro e w' ⟨rfl, rfl⟩)
        go_ret
        have := HST.out
        rw [if_pos h3] at this
        exact ⟨by rw [← hfl.out, this]; rfl, rfl⟩
      · go_wp2_with (go_at_call 20; refine hcall.mono ?_; rintro e w' ⟨rfl, rfl⟩)
        have := HST.out
        rw [if_neg (show ¬ R < 0 by omega)] at this
        exact ⟨⟨i + 1, by omega, by go_num, this.symm.trans hfl.out⟩, by simp [intOf]; omega⟩
    · have h2 : ¬ (i : Int) < 256 := by omega
      go_wp2
      go_ret
      have := hfl.out
      have e : 256 - i = 0 := by omega
      rw [e] at this
      exact ⟨by rw [← this]; rfl, rfl⟩
end Go.Proofs.Qxb6604104aDoor
