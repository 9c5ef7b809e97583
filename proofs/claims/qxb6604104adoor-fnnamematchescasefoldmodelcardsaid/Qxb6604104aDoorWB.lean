import Derived.Test.Qxb6604104aDoorW9
namespace Go.Proofs.Qxb6604104aDoor
open Go.RowKit
set_option linter.unusedSimpArgs false
set_option linter.unusedVariables false

/-- How many places below i are marked. -/
def cnt (H : Nat → Bool) : Nat → Nat
  | 0 => 0
  | i + 1 => cnt H i + (if H i = true then 1 else 0)
theorem cnt_le (H : Nat → Bool) : ∀ i, cnt H i ≤ i
  | 0 => Nat.le_refl _
  | i + 1 => by have := cnt_le H i; simp only [cnt]; split <;> omega
theorem cnt_mono (H : Nat → Bool) (a : Nat) : ∀ d, cnt H a ≤ cnt H (a + d)
  | 0 => Nat.le_refl _
  | d + 1 => by have := cnt_mono H a d; rw [← Nat.add_assoc]; simp only [cnt]; split <;> omega
theorem cnt_pos (H : Nat → Bool) (a : Nat) : ∀ d, cnt H a < cnt H (a + d) ↔ ∃ k, a ≤ k ∧ k < a + d ∧ H k = true
  | 0 => by
    constructor
    · intro h; simp at h
    · rintro ⟨k, h1, h2, _⟩; omega
  | d + 1 => by
    have ih := cnt_pos H a d
    have hm := cnt_mono H a d
    rw [← Nat.add_assoc]
    simp only [cnt]
    constructor
    · intro h
      by_cases hh : H (a + d) = true
      · exact ⟨a + d, by omega, by omega, hh⟩
      · rw [if_neg hh] at h
        obtain ⟨k, h1, h2, h3⟩ := ih.1 (by omega)
        exact ⟨k, h1, by omega, h3⟩
    · rintro ⟨k, h1, h2, h3⟩
      by_cases e : k = a + d
      · rw [e] at h3; rw [if_pos h3]; omega
      · have := ih.2 ⟨k, h1, by omega, h3⟩
        split <;> omega
/-- The marks: the windows that match. -/
def Hit (s key : ByteArray) (H : Nat → Bool) : Prop := ∀ k, H k = true ↔ (k + key.size ≤ s.size ∧ Mt s key k)
theorem live_iff {s key : ByteArray} {H : Nat → Bool} (hh : Hit s key H) (i : Nat) : cnt H (i + 1 - key.size) < cnt H (i + 1) ↔ Cov s key (s.size + 1) i := by
  by_cases hn : key.size ≤ i + 1
  · have e : i + 1 = (i + 1 - key.size) + key.size := by omega
    have h := cnt_pos H (i + 1 - key.size) key.size
    rw [← e] at h
    rw [h]
    constructor
    · rintro ⟨k, h1, h2, h3⟩
      obtain ⟨h4, h5⟩ := (hh k).1 h3
      exact ⟨k, by omega, h4, h5, by omega, by omega⟩
    · rintro ⟨k, h1, h2, h3, h4, h5⟩
      exact ⟨k, by omega, by omega, (hh k).2 ⟨h2, h3⟩⟩
  · have e : i + 1 - key.size = 0 := by omega
    have h := cnt_pos H 0 (i + 1)
    rw [Nat.zero_add] at h
    rw [e, h]
    constructor
    · rintro ⟨k, h1, h2, h3⟩
      obtain ⟨h4, h5⟩ := (hh k).1 h3
      exact ⟨k, by omega, h4, h5, by omega, by omega⟩
    · rintro ⟨k, h1, h2, h3, h4, h5⟩
      exact ⟨k, by omega, by omega, (hh k).2 ⟨h2, h3⟩⟩
theorem info4 : (Tryd.prog.info? 4).map (fun i => (i.zero, i.size, i.bytes)) = some (some (.bool false), 1, 1) := by kernel_rfl
theorem info5 : (Tryd.prog.info? 5).map (fun i => (i.zero, i.size, i.bytes)) = some (some (.int .u8 0), 1, 1) := by kernel_rfl
theorem row_owned {w : World} {base : Nat} {e : TypeId} {g n cap : Nat} {z : Value} (h : w.ownsRow base e 1 (.slice (some ⟨g, 0, none⟩) n cap) n (madeCells #[z] (n * 1)).toList) : Row w g n (fun _ => z) := by
  intro j hj
  refine ⟨?_, h.frozenAt j⟩
  rw [h.cellAt j (by omega), toList_madeCells_one]
  simp [hj]
/-- The marks laid so far. -/
def Lay (s key : ByteArray) (j : Nat) (hb : Nat → Bool) : Prop := ∀ k, k < j → (hb k = true ↔ Mt s key k)
/-- The bytes laid so far. -/
def Out (s key : ByteArray) (f i : Nat) (g : Nat → Nat) : Prop := ∀ j, j < i → (Cov s key (s.size + 1) j → g j = f) ∧ (¬ Cov s key (s.size + 1) j → g j = bt s j)
theorem cnt_step_yes (H : Nat → Bool) (i : Nat) (h : H i = true) : cnt H (i + 1) = cnt H i + 1 := by simp [cnt, h]
theorem cnt_step_no (H : Nat → Bool) (i : Nat) (h : H i = false) : cnt H (i + 1) = cnt H i + 0 := by simp [cnt, h]
theorem back_yes (H : Nat → Bool) (i n : Nat) (hn : n ≤ i) (h : H (i - n) = true) : cnt H (i + 1 - n) = cnt H (i - n) + 1 := by
  rw [show i + 1 - n = (i - n) + 1 by omega]; exact cnt_step_yes H _ h
theorem back_no (H : Nat → Bool) (i n : Nat) (hn : n ≤ i) (h : H (i - n) = false) : cnt H (i + 1 - n) = cnt H (i - n) + 0 := by
  rw [show i + 1 - n = (i - n) + 1 by omega]; exact cnt_step_no H _ h
theorem back_low (H : Nat → Bool) (i n : Nat) (hn : ¬ n ≤ i) : cnt H (i + 1 - n) = cnt H (i - n) + 0 := by
  rw [show i + 1 - n = i - n by omega]; rfl
theorem mono_to (H : Nat → Bool) (a b : Nat) (h : a ≤ b) : cnt H a ≤ cnt H b := by
  have := cnt_mono H a (b - a)
  rwa [show a + (b - a) = b by omega] at this
theorem out_yes {s key : ByteArray} {f i : Nat} {g : Nat → Nat} (h : Out s key f i g) (hc : Cov s key (s.size + 1) i) : Out s key f (i + 1) (fun j => if j = i then f else g j) := fun j hj => by
  show (_ → (if j = i then f else g j) = f) ∧ (_ → (if j = i then f else g j) = bt s j)
  by_cases e : j = i
  · rw [if_pos e]
    exact ⟨fun _ => rfl, fun hn => absurd (by rw [e]; exact hc) hn⟩
  · rw [if_neg e]
    exact h j (by omega)
theorem out_no {s key : ByteArray} {f i y : Nat} {g : Nat → Nat} (h : Out s key f i g) (hc : ¬ Cov s key (s.size + 1) i) (hy : bt s i = y) : Out s key f (i + 1) (fun j => if j = i then y else g j) := fun j hj => by
  show (_ → (if j = i then y else g j) = f) ∧ (_ → (if j = i then y else g j) = bt s j)
  by_cases e : j = i
  · rw [if_pos e]
    exact ⟨fun hn => absurd (by rw [← e]; exact hn) hc, fun _ => by rw [e, hy]⟩
  · rw [if_neg e]
    exact h j (by omega)
theorem out_lt {s key : ByteArray} {f i : Nat} {g : Nat → Nat} (h : Out s key f i g) (hf : f < 256) (j : Nat) (hj : j < i) : g j < 256 := by
  by_cases hc : Cov s key (s.size + 1) j
  · rw [(h j hj).1 hc]; exact hf
  · rw [(h j hj).2 hc]; exact bt_lt _ _

set_option maxRecDepth 100000 in
set_option maxHeartbeats 4000000 in
theorem model_any (key s : ByteArray) (w : World) (hs : s.size ≤ 65536) (hks : key.size ≤ 4096) :
    Calls Tryd.prog 8 #[.string key, .string s] w (Ans s key w) := by
  by_cases hn : key.size = 0
  · have k0 : ((key.size : Int) == 0) = true := by rw [hn]; rfl
    have HN : Hid (key.size = 0) := hn
    clear hn
    go_enter Tryd.func8, Tryd.ntmps8
    go_wp2_with fail
    go_ret
    exact ⟨s, rfl, rfl, fun j hj => ⟨fun ⟨k, _, _, _, h4, h5⟩ => absurd h5 (by have := HN.out; omega), fun _ => rfl⟩, Below.refl _ _⟩
  · have k0 : ((key.size : Int) == 0) = false := beq_eq_false_iff_ne.2 (by omega)
    by_cases hl : s.size < key.size
    · have k1 : (s.size : Int) < (key.size : Int) := by omega
      go_enter Tryd.func8, Tryd.ntmps8
      go_wp2_with fail
      go_ret
      exact ⟨s, rfl, rfl, fun j hj => ⟨fun ⟨k, _, h2, _⟩ => absurd h2 (by omega), fun _ => rfl⟩, Below.refl _ _⟩
    · have k1 : ¬ (s.size : Int) < (key.size : Int) := by omega
      have q1 : decide ((s.size : Int) < (key.size : Int)) = false := decide_eq_false k1
      have cf := fwbFill_any key w hks
      have HFL : Hid (fk key < 256) := fk_lt key
      obtain ⟨F, hF⟩ : ∃ F, fk key = F := ⟨_, rfl⟩
      have HF : Hid (fk key = F) := hF
      rw [hF] at cf HFL
      clear hF
      obtain ⟨i4, i4a, i4b, i4c, i4d⟩ := info_parts info4
      obtain ⟨i5, i5a, i5b, i5c, i5d⟩ := info_parts info5
      obtain ⟨m, hm⟩ : ∃ m : Nat, s.size - key.size + 1 = m := ⟨_, rfl⟩
      have hmI : (s.size : Int) - (key.size : Int) + 1 = (m : Int) := by omega
      go_enter Tryd.func8, Tryd.ntmps8
      go_wp2_with fail
      refine cf.mono ?_
      rintro e w1 ⟨rfl, hb1⟩
      have HB1 : Hid (Below w.heap.size w w1) := hb1
      clear hb1 cf
      go_wp2_with (at_make; refine wpList_make_full _ rfl (.tmp 30) (.tmp 30) 33 rfl w1.heap.size 4 i4 (.bool false) 1 Tryd.underlying33 i4a i4b i4c .i64 .i64 _ _ m rfl rfl (by omega) (by omega) (by rw [i4d]; omega) (by unfold maxLen; omega) (Nat.le_refl _) ?_; intro w2 hown2 hgrow2)
      have HR2 : Hid (Row w2 w1.heap.size m (fun k => .bool false)) := row_owned hown2
      have HB2 : Hid (Below w.heap.size w w2) := HB1.out.grown hgrow2 HB1.out.size (by intro k hk; cases hk)
      have HS2 : Hid (w1.heap.size < w2.heap.size) := by
        obtain ⟨_, h | ⟨g, cap, cur, h1, h2, h3, h4⟩⟩ := hown2
        · simp at h
        · simp only [Value.slice.injEq, Option.some.injEq, Addr.mk.injEq] at h1
          rw [← h1.1.1] at h3
          exact (Array.getElem?_eq_some_iff.1 h3).1
      clear hown2 hgrow2
      obtain ⟨B1, hB1⟩ : ∃ B1, w1.heap.size = B1 := ⟨_, rfl⟩
      have HWB : Hid (w.heap.size ≤ B1) := by show w.heap.size ≤ B1; rw [← hB1]; exact HB1.out.size
      rw [hB1] at HR2 HS2 ⊢
      clear hB1
      go_loopw [9] (fun x wr => ∃ (j : Nat) (hb : Nat → Bool), x = .int .i64 j ∧ j ≤ m ∧ Lay s key j hb ∧ Row wr B1 m (fun k => .bool (hb k)) ∧ Below w.heap.size w wr ∧ B1 < wr.heap.size) (fun x _ => m - (intOf x).toNat)
      case atStart => exact ⟨0, fun _ => false, rfl, Nat.zero_le _, fun k hk => absurd hk (by omega), HR2.out, HB2.out, HS2.out⟩
      case round =>
        obtain ⟨j, hb, rfl, hj, hlay, hrow, hbl, hsz⟩ := hrel
        have HLAY : Hid (Lay s key j hb) := hlay
        have HROW : Hid (Row wr B1 m (fun k => .bool (hb k))) := hrow
        have HBL : Hid (Below w.heap.size w wr) := hbl
        have HSZ : Hid (B1 < wr.heap.size) := hsz
        clear hlay hrow hbl hsz
        by_cases h1 : j < m
        · have h2 : (j : Int) + (key.size : Int) ≤ (s.size : Int) := by omega
          have h3 : (j : Int) < (m : Int) := by omega
          go_wp2_with fail
          refine (foldmatch_any s j key wr (by omega) hs).mono ?_
          rintro e w3 ⟨⟨b, rfl, hbm⟩, d, rfl⟩
          have HBM : Hid (b = true ↔ Mt s key j) := hbm
          clear hbm
          have c1 : wr.cell? ⟨B1, j, none⟩ = some (.bool (hb j)) := (HROW.out j h1).1
          have c2 : wr.frozen? ⟨B1, j, none⟩ = false := (HROW.out j h1).2
          go_wp2_with fail
          refine ⟨⟨j + 1, fun k => if k = j then b else hb k, by go_num, by omega, ?_, ?_, ?_, ?_⟩, by simp [intOf]; omega⟩
          · intro k hk
            show (if k = j then b else hb k) = true ↔ _
            by_cases e : k = j
            · rw [if_pos e, e]; exact HBM.out
            · rw [if_neg e]; exact HLAY.out k (by omega)
          · exact (Row.set (show Row (wr.drewN d) B1 m (fun k => .bool (hb k)) from HROW.out) h1 (.bool b)).congr fun k hk => by
              show (if k = j then Value.bool b else Value.bool (hb k)) = Value.bool (if k = j then b else hb k)
              split <;> rfl
          · exact (below_drewN HBL.out d).setCell HWB.out _
          · rw [World.size_setCell]; exact HSZ.out
        · have h2 : ¬ (j : Int) + (key.size : Int) ≤ (s.size : Int) := by omega
          go_wp2_with (at_make; refine wpList_make_full _ rfl (.tmp 46) (.tmp 46) 26 rfl wr.heap.size 5 i5 (.int .u8 0) 1 Tryd.underlying26 i5a i5b i5c .i64 .i64 _ _ s.size rfl rfl rfl rfl (by rw [i5d]; omega) (by unfold maxLen; omega) (Nat.le_refl _) ?_; intro w4 hown4 hgrow4)
          have HR4 : Hid (Row w4 wr.heap.size s.size (fun k => .int .u8 ((0 : Nat) : Int))) := row_owned hown4
          have HR1a : Hid (Row w4 B1 m (fun k => .bool (hb k))) := HROW.out.grown hgrow4 HSZ.out (by simp)
          have HB4 : Hid (Below w.heap.size w w4) := HBL.out.grown hgrow4 HBL.out.size (by intro k hk; cases hk)
          have HS4 : Hid (B1 < w4.heap.size) := Nat.lt_of_lt_of_le HSZ.out hgrow4.size
          clear hown4 hgrow4
          obtain ⟨B2, hB2⟩ : ∃ B2, wr.heap.size = B2 := ⟨_, rfl⟩
          have HBB : Hid (B1 < B2) := by show B1 < B2; rw [← hB2]; exact HSZ.out
          have HNE : Hid (some B1 ≠ some B2) := fun h => by have := HBB.out; cases h; omega
          have HW2 : Hid (w.heap.size ≤ B2) := Nat.le_trans HWB.out (Nat.le_of_lt HBB.out)
          rw [hB2] at HR4 ⊢
          clear hB2
          obtain ⟨H, hH⟩ : ∃ H : Nat → Bool, H = fun k => decide (k < m) && hb k := ⟨_, rfl⟩
          have HHIT : Hid (Hit s key H) := by
            intro k
            rw [hH]
            by_cases hk : k < m
            · simp only [hk, decide_true, Bool.true_and, HLAY.out k (by omega)]
              constructor
              · intro h; exact ⟨by omega, h⟩
              · intro h; exact h.2
            · simp only [hk, decide_false, Bool.false_and]
              constructor
              · intro h; cases h
              · intro h; exact absurd h.1 (by omega)
          have HHV : Hid (∀ k, k < m → H k = hb k) := by intro k hk; rw [hH]; simp [hk]
          have HHW : Hid (∀ k, ¬ k < m → H k = false) := by intro k hk; rw [hH]; simp [hk]
          clear hH
          go_loopw [11, 12] (fun lv x wr => ∃ (i L : Nat) (g : Nat → Nat), lv = .int .i64 L ∧ x = .int .i64 i ∧ i ≤ s.size ∧ L + cnt H (i - key.size) = cnt H i ∧ Out s key F i g ∧ Row wr B2 s.size (fun j => .int .u8 (g j)) ∧ Row wr B1 m (fun k => .bool (hb k)) ∧ Below w.heap.size w wr ∧ B1 < wr.heap.size) (fun _ x _ => s.size - (intOf x).toNat)
          case atStart => exact ⟨0, 0, fun _ => 0, rfl, rfl, Nat.zero_le _, by rw [Nat.zero_sub]; simp, fun j hj => absurd hj (by omega), HR4.out, HR1a.out, HB4.out, HS4.out⟩
          case round =>
            rename_i wr0
            obtain ⟨i, L, g, rfl, rfl, hi, hLc, hout, hr2, hr1, hbl, hs1⟩ := hrel
            have HLc : Hid (L + cnt H (i - key.size) = cnt H i) := hLc
            have HOUT : Hid (Out s key F i g) := hout
            have HR2 : Hid (Row wr B2 s.size (fun j => .int .u8 (g j))) := hr2
            have HR1 : Hid (Row wr B1 m (fun k => .bool (hb k))) := hr1
            have HBL : Hid (Below w.heap.size w wr) := hbl
            have HS1 : Hid (B1 < wr.heap.size) := hs1
            have hL6 : L ≤ 65536 := by have := cnt_le H i; omega
            clear hLc hout hr2 hr1 hbl hs1
            by_cases h1 : i < s.size
            · have h1I : (i : Int) < (s.size : Int) := by omega
              obtain ⟨y, hy⟩ : ∃ y, s[i].toNat = y := ⟨_, rfl⟩
              have HY : Hid (bt s i = y) := by show bt s i = y; rw [bt_eq h1, hy]
              have d1 : wr.cell? ⟨B2, i, none⟩ = some (.int .u8 (g i)) := (HR2.out i h1).1
              have d2 : wr.frozen? ⟨B2, i, none⟩ = false := (HR2.out i h1).2
              rcases (show (i < m ∧ hb i = true) ∨ (i < m ∧ hb i = false) ∨ ¬ i < m from by cases hb i <;> simp <;> omega) with ⟨hA, hAb⟩ | ⟨hA, hAb⟩ | hA
              · have hAI : (i : Int) < (m : Int) := by omega
                have c1 : wr.cell? ⟨B1, i, none⟩ = some (.bool true) := by rw [(HR1.out i hA).1]; show some (Value.bool (hb i)) = _; rw [hAb]
                have HHi : Hid (H i = true) := by show _ = _; rw [HHV.out i hA, hAb]
                clear hAb
                by_cases hB : key.size ≤ i
                · have hBI : (0 : Int) ≤ (i : Int) - (key.size : Int) := by omega
                  have hBJ : (i : Int) - (key.size : Int) < (m : Int) := by omega
                  have hBT : ((i : Int) - (key.size : Int)).toNat = i - key.size := by omega
                  have hBm : i - key.size < m := by omega
                  cases hbv : hb (i - key.size) with
                  | false =>
                    have c2 : wr.cell? ⟨B1, i - key.size, none⟩ = some (.bool false) := by rw [(HR1.out (i - key.size) hBm).1]; show some (Value.bool (hb (i - key.size))) = _; rw [hbv]
                    have HHb : Hid (H (i - key.size) = false) := by show _ = _; rw [HHV.out _ hBm, hbv]
                    clear hbv
                    have HA : Hid (cnt H (i + 1) = cnt H i + 1) := cnt_step_yes H i HHi.out
                    have HBc : Hid (cnt H (i + 1 - key.size) = cnt H (i - key.size) + 0) := back_no H i key.size (by omega) HHb.out
                    have HL2 : Hid (L + 1 + cnt H (i + 1 - key.size) = cnt H (i + 1)) := by have h1 := HLc.out; have h2 := HA.out; have h3 := HBc.out; show L + 1 + cnt H (i + 1 - key.size) = cnt H (i + 1); omega
                    have hiff := live_iff HHIT.out i
                    have HCV : Hid (Cov s key (s.size + 1) i) := hiff.1 (by have := HL2.out; omega)
                    clear hiff
                    go_wp2_with fail
                    exact ⟨⟨i + 1, L + 1, fun j => if j = i then F else g j, by go_num, by go_num, by omega, HL2.out, out_yes HOUT.out HCV.out, (HR2.out.set h1 (.int .u8 (F : Nat))).congr fun j hj => by show (if j = i then Value.int .u8 (F : Nat) else Value.int .u8 (g j)) = Value.int .u8 ((if j = i then F else g j : Nat)); split <;> rfl, HR1.out.grown (grownBy_setCell _ _ _ _) HS1.out HNE.out, HBL.out.setCell HW2.out _, by rw [World.size_setCell]; exact HS1.out⟩, by simp [intOf]; omega⟩
                  | true =>
                    have c2 : wr.cell? ⟨B1, i - key.size, none⟩ = some (.bool true) := by rw [(HR1.out (i - key.size) hBm).1]; show some (Value.bool (hb (i - key.size))) = _; rw [hbv]
                    have HHb : Hid (H (i - key.size) = true) := by show _ = _; rw [HHV.out _ hBm, hbv]
                    clear hbv
                    have HA : Hid (cnt H (i + 1) = cnt H i + 1) := cnt_step_yes H i HHi.out
                    have HBc : Hid (cnt H (i + 1 - key.size) = cnt H (i - key.size) + 1) := back_yes H i key.size (by omega) HHb.out
                    have HL2 : Hid (L + cnt H (i + 1 - key.size) = cnt H (i + 1)) := by have h1 := HLc.out; have h2 := HA.out; have h3 := HBc.out; show L + cnt H (i + 1 - key.size) = cnt H (i + 1); omega
                    by_cases hp : 0 < L
                    · have hpI : (0 : Int) < (L : Int) := by omega
                      have hiff := live_iff HHIT.out i
                      have HCV : Hid (Cov s key (s.size + 1) i) := hiff.1 (by have := HL2.out; omega)
                      clear hiff
                      go_wp2_with fail
                      exact ⟨⟨i + 1, L, fun j => if j = i then F else g j, by go_num, by go_num, by omega, HL2.out, out_yes HOUT.out HCV.out, (HR2.out.set h1 (.int .u8 (F : Nat))).congr fun j hj => by show (if j = i then Value.int .u8 (F : Nat) else Value.int .u8 (g j)) = Value.int .u8 ((if j = i then F else g j : Nat)); split <;> rfl, HR1.out.grown (grownBy_setCell _ _ _ _) HS1.out HNE.out, HBL.out.setCell HW2.out _, by rw [World.size_setCell]; exact HS1.out⟩, by simp [intOf]; omega⟩
                    · have hpI : ¬ (0 : Int) < (L : Int) := by omega
                      have hiff := live_iff HHIT.out i
                      have HCV : Hid (¬ Cov s key (s.size + 1) i) := fun h => by have h2 := hiff.2 h; have := HL2.out; omega
                      clear hiff
                      go_wp2_with fail
                      exact ⟨⟨i + 1, L, fun j => if j = i then y else g j, by go_num, by go_num, by omega, HL2.out, out_no HOUT.out HCV.out HY.out, (HR2.out.set h1 (.int .u8 (y : Nat))).congr fun j hj => by show (if j = i then Value.int .u8 (y : Nat) else Value.int .u8 (g j)) = Value.int .u8 ((if j = i then y else g j : Nat)); split <;> rfl, HR1.out.grown (grownBy_setCell _ _ _ _) HS1.out HNE.out, HBL.out.setCell HW2.out _, by rw [World.size_setCell]; exact HS1.out⟩, by simp [intOf]; omega⟩
                · have hBI : ¬ (0 : Int) ≤ (i : Int) - (key.size : Int) := by omega
                  have HA : Hid (cnt H (i + 1) = cnt H i + 1) := cnt_step_yes H i HHi.out
                  have HBc : Hid (cnt H (i + 1 - key.size) = cnt H (i - key.size) + 0) := back_low H i key.size (by omega)
                  have HL2 : Hid (L + 1 + cnt H (i + 1 - key.size) = cnt H (i + 1)) := by have h1 := HLc.out; have h2 := HA.out; have h3 := HBc.out; show L + 1 + cnt H (i + 1 - key.size) = cnt H (i + 1); omega
                  have hiff := live_iff HHIT.out i
                  have HCV : Hid (Cov s key (s.size + 1) i) := hiff.1 (by have := HL2.out; omega)
                  clear hiff
                  go_wp2_with fail
                  exact ⟨⟨i + 1, L + 1, fun j => if j = i then F else g j, by go_num, by go_num, by omega, HL2.out, out_yes HOUT.out HCV.out, (HR2.out.set h1 (.int .u8 (F : Nat))).congr fun j hj => by show (if j = i then Value.int .u8 (F : Nat) else Value.int .u8 (g j)) = Value.int .u8 ((if j = i then F else g j : Nat)); split <;> rfl, HR1.out.grown (grownBy_setCell _ _ _ _) HS1.out HNE.out, HBL.out.setCell HW2.out _, by rw [World.size_setCell]; exact HS1.out⟩, by simp [intOf]; omega⟩
              · have hAI : (i : Int) < (m : Int) := by omega
                have c1 : wr.cell? ⟨B1, i, none⟩ = some (.bool false) := by rw [(HR1.out i hA).1]; show some (Value.bool (hb i)) = _; rw [hAb]
                have HHi : Hid (H i = false) := by show _ = _; rw [HHV.out i hA, hAb]
                clear hAb
                by_cases hB : key.size ≤ i
                · have hBI : (0 : Int) ≤ (i : Int) - (key.size : Int) := by omega
                  have hBJ : (i : Int) - (key.size : Int) < (m : Int) := by omega
                  have hBT : ((i : Int) - (key.size : Int)).toNat = i - key.size := by omega
                  have hBm : i - key.size < m := by omega
                  cases hbv : hb (i - key.size) with
                  | false =>
                    have c2 : wr.cell? ⟨B1, i - key.size, none⟩ = some (.bool false) := by rw [(HR1.out (i - key.size) hBm).1]; show some (Value.bool (hb (i - key.size))) = _; rw [hbv]
                    have HHb : Hid (H (i - key.size) = false) := by show _ = _; rw [HHV.out _ hBm, hbv]
                    clear hbv
                    have HA : Hid (cnt H (i + 1) = cnt H i + 0) := cnt_step_no H i HHi.out
                    have HBc : Hid (cnt H (i + 1 - key.size) = cnt H (i - key.size) + 0) := back_no H i key.size (by omega) HHb.out
                    have HL2 : Hid (L + cnt H (i + 1 - key.size) = cnt H (i + 1)) := by have h1 := HLc.out; have h2 := HA.out; have h3 := HBc.out; show L + cnt H (i + 1 - key.size) = cnt H (i + 1); omega
                    by_cases hp : 0 < L
                    · have hpI : (0 : Int) < (L : Int) := by omega
                      have hiff := live_iff HHIT.out i
                      have HCV : Hid (Cov s key (s.size + 1) i) := hiff.1 (by have := HL2.out; omega)
                      clear hiff
                      go_wp2_with fail
                      exact ⟨⟨i + 1, L, fun j => if j = i then F else g j, by go_num, by go_num, by omega, HL2.out, out_yes HOUT.out HCV.out, (HR2.out.set h1 (.int .u8 (F : Nat))).congr fun j hj => by show (if j = i then Value.int .u8 (F : Nat) else Value.int .u8 (g j)) = Value.int .u8 ((if j = i then F else g j : Nat)); split <;> rfl, HR1.out.grown (grownBy_setCell _ _ _ _) HS1.out HNE.out, HBL.out.setCell HW2.out _, by rw [World.size_setCell]; exact HS1.out⟩, by simp [intOf]; omega⟩
                    · have hpI : ¬ (0 : Int) < (L : Int) := by omega
                      have hiff := live_iff HHIT.out i
                      have HCV : Hid (¬ Cov s key (s.size + 1) i) := fun h => by have h2 := hiff.2 h; have := HL2.out; omega
                      clear hiff
                      go_wp2_with fail
                      exact ⟨⟨i + 1, L, fun j => if j = i then y else g j, by go_num, by go_num, by omega, HL2.out, out_no HOUT.out HCV.out HY.out, (HR2.out.set h1 (.int .u8 (y : Nat))).congr fun j hj => by show (if j = i then Value.int .u8 (y : Nat) else Value.int .u8 (g j)) = Value.int .u8 ((if j = i then y else g j : Nat)); split <;> rfl, HR1.out.grown (grownBy_setCell _ _ _ _) HS1.out HNE.out, HBL.out.setCell HW2.out _, by rw [World.size_setCell]; exact HS1.out⟩, by simp [intOf]; omega⟩
                  | true =>
                    have c2 : wr.cell? ⟨B1, i - key.size, none⟩ = some (.bool true) := by rw [(HR1.out (i - key.size) hBm).1]; show some (Value.bool (hb (i - key.size))) = _; rw [hbv]
                    have HHb : Hid (H (i - key.size) = true) := by show _ = _; rw [HHV.out _ hBm, hbv]
                    clear hbv
                    have HA : Hid (cnt H (i + 1) = cnt H i + 0) := cnt_step_no H i HHi.out
                    have HBc : Hid (cnt H (i + 1 - key.size) = cnt H (i - key.size) + 1) := back_yes H i key.size (by omega) HHb.out
                    obtain ⟨M, rfl⟩ : ∃ M, L = M + 1 := ⟨L - 1, by have h1 := HLc.out; have h2 := HA.out; have h3 := HBc.out; have h4 := mono_to H (i + 1 - key.size) (i + 1) (by omega); omega⟩
                    have HL2 : Hid (M + cnt H (i + 1 - key.size) = cnt H (i + 1)) := by have h1 := HLc.out; have h2 := HA.out; have h3 := HBc.out; show M + cnt H (i + 1 - key.size) = cnt H (i + 1); omega
                    by_cases hp : 0 < M
                    · have hpI : (0 : Int) < (M : Int) := by omega
                      have hiff := live_iff HHIT.out i
                      have HCV : Hid (Cov s key (s.size + 1) i) := hiff.1 (by have := HL2.out; omega)
                      clear hiff
                      go_wp2_with fail
                      exact ⟨⟨i + 1, M, fun j => if j = i then F else g j, by go_num, by go_num, by omega, HL2.out, out_yes HOUT.out HCV.out, (HR2.out.set h1 (.int .u8 (F : Nat))).congr fun j hj => by show (if j = i then Value.int .u8 (F : Nat) else Value.int .u8 (g j)) = Value.int .u8 ((if j = i then F else g j : Nat)); split <;> rfl, HR1.out.grown (grownBy_setCell _ _ _ _) HS1.out HNE.out, HBL.out.setCell HW2.out _, by rw [World.size_setCell]; exact HS1.out⟩, by simp [intOf]; omega⟩
                    · have hpI : ¬ (0 : Int) < (M : Int) := by omega
                      have hiff := live_iff HHIT.out i
                      have HCV : Hid (¬ Cov s key (s.size + 1) i) := fun h => by have h2 := hiff.2 h; have := HL2.out; omega
                      clear hiff
                      go_wp2_with fail
                      exact ⟨⟨i + 1, M, fun j => if j = i then y else g j, by go_num, by go_num, by omega, HL2.out, out_no HOUT.out HCV.out HY.out, (HR2.out.set h1 (.int .u8 (y : Nat))).congr fun j hj => by show (if j = i then Value.int .u8 (y : Nat) else Value.int .u8 (g j)) = Value.int .u8 ((if j = i then y else g j : Nat)); split <;> rfl, HR1.out.grown (grownBy_setCell _ _ _ _) HS1.out HNE.out, HBL.out.setCell HW2.out _, by rw [World.size_setCell]; exact HS1.out⟩, by simp [intOf]; omega⟩
                · have hBI : ¬ (0 : Int) ≤ (i : Int) - (key.size : Int) := by omega
                  have HA : Hid (cnt H (i + 1) = cnt H i + 0) := cnt_step_no H i HHi.out
                  have HBc : Hid (cnt H (i + 1 - key.size) = cnt H (i - key.size) + 0) := back_low H i key.size (by omega)
                  have HL2 : Hid (L + cnt H (i + 1 - key.size) = cnt H (i + 1)) := by have h1 := HLc.out; have h2 := HA.out; have h3 := HBc.out; show L + cnt H (i + 1 - key.size) = cnt H (i + 1); omega
                  by_cases hp : 0 < L
                  · have hpI : (0 : Int) < (L : Int) := by omega
                    have hiff := live_iff HHIT.out i
                    have HCV : Hid (Cov s key (s.size + 1) i) := hiff.1 (by have := HL2.out; omega)
                    clear hiff
                    go_wp2_with fail
                    exact ⟨⟨i + 1, L, fun j => if j = i then F else g j, by go_num, by go_num, by omega, HL2.out, out_yes HOUT.out HCV.out, (HR2.out.set h1 (.int .u8 (F : Nat))).congr fun j hj => by show (if j = i then Value.int .u8 (F : Nat) else Value.int .u8 (g j)) = Value.int .u8 ((if j = i then F else g j : Nat)); split <;> rfl, HR1.out.grown (grownBy_setCell _ _ _ _) HS1.out HNE.out, HBL.out.setCell HW2.out _, by rw [World.size_setCell]; exact HS1.out⟩, by simp [intOf]; omega⟩
                  · have hpI : ¬ (0 : Int) < (L : Int) := by omega
                    have hiff := live_iff HHIT.out i
                    have HCV : Hid (¬ Cov s key (s.size + 1) i) := fun h => by have h2 := hiff.2 h; have := HL2.out; omega
                    clear hiff
                    go_wp2_with fail
                    exact ⟨⟨i + 1, L, fun j => if j = i then y else g j, by go_num, by go_num, by omega, HL2.out, out_no HOUT.out HCV.out HY.out, (HR2.out.set h1 (.int .u8 (y : Nat))).congr fun j hj => by show (if j = i then Value.int .u8 (y : Nat) else Value.int .u8 (g j)) = Value.int .u8 ((if j = i then y else g j : Nat)); split <;> rfl, HR1.out.grown (grownBy_setCell _ _ _ _) HS1.out HNE.out, HBL.out.setCell HW2.out _, by rw [World.size_setCell]; exact HS1.out⟩, by simp [intOf]; omega⟩
              · have hAI : ¬ (i : Int) < (m : Int) := by omega
                have HHi : Hid (H i = false) := HHW.out i hA
                by_cases hB : key.size ≤ i
                · have hBI : (0 : Int) ≤ (i : Int) - (key.size : Int) := by omega
                  have hBJ : (i : Int) - (key.size : Int) < (m : Int) := by omega
                  have hBT : ((i : Int) - (key.size : Int)).toNat = i - key.size := by omega
                  have hBm : i - key.size < m := by omega
                  cases hbv : hb (i - key.size) with
                  | false =>
                    have c2 : wr.cell? ⟨B1, i - key.size, none⟩ = some (.bool false) := by rw [(HR1.out (i - key.size) hBm).1]; show some (Value.bool (hb (i - key.size))) = _; rw [hbv]
                    have HHb : Hid (H (i - key.size) = false) := by show _ = _; rw [HHV.out _ hBm, hbv]
                    clear hbv
                    have HA : Hid (cnt H (i + 1) = cnt H i + 0) := cnt_step_no H i HHi.out
                    have HBc : Hid (cnt H (i + 1 - key.size) = cnt H (i - key.size) + 0) := back_no H i key.size (by omega) HHb.out
                    have HL2 : Hid (L + cnt H (i + 1 - key.size) = cnt H (i + 1)) := by have h1 := HLc.out; have h2 := HA.out; have h3 := HBc.out; show L + cnt H (i + 1 - key.size) = cnt H (i + 1); omega
                    by_cases hp : 0 < L
                    · have hpI : (0 : Int) < (L : Int) := by omega
                      have hiff := live_iff HHIT.out i
                      have HCV : Hid (Cov s key (s.size + 1) i) := hiff.1 (by have := HL2.out; omega)
                      clear hiff
                      go_wp2_with fail
                      exact ⟨⟨i + 1, L, fun j => if j = i then F else g j, by go_num, by go_num, by omega, HL2.out, out_yes HOUT.out HCV.out, (HR2.out.set h1 (.int .u8 (F : Nat))).congr fun j hj => by show (if j = i then Value.int .u8 (F : Nat) else Value.int .u8 (g j)) = Value.int .u8 ((if j = i then F else g j : Nat)); split <;> rfl, HR1.out.grown (grownBy_setCell _ _ _ _) HS1.out HNE.out, HBL.out.setCell HW2.out _, by rw [World.size_setCell]; exact HS1.out⟩, by simp [intOf]; omega⟩
                    · have hpI : ¬ (0 : Int) < (L : Int) := by omega
                      have hiff := live_iff HHIT.out i
                      have HCV : Hid (¬ Cov s key (s.size + 1) i) := fun h => by have h2 := hiff.2 h; have := HL2.out; omega
                      clear hiff
                      go_wp2_with fail
                      exact ⟨⟨i + 1, L, fun j => if j = i then y else g j, by go_num, by go_num, by omega, HL2.out, out_no HOUT.out HCV.out HY.out, (HR2.out.set h1 (.int .u8 (y : Nat))).congr fun j hj => by show (if j = i then Value.int .u8 (y : Nat) else Value.int .u8 (g j)) = Value.int .u8 ((if j = i then y else g j : Nat)); split <;> rfl, HR1.out.grown (grownBy_setCell _ _ _ _) HS1.out HNE.out, HBL.out.setCell HW2.out _, by rw [World.size_setCell]; exact HS1.out⟩, by simp [intOf]; omega⟩
                  | true =>
                    have c2 : wr.cell? ⟨B1, i - key.size, none⟩ = some (.bool true) := by rw [(HR1.out (i - key.size) hBm).1]; show some (Value.bool (hb (i - key.size))) = _; rw [hbv]
                    have HHb : Hid (H (i - key.size) = true) := by show _ = _; rw [HHV.out _ hBm, hbv]
                    clear hbv
                    have HA : Hid (cnt H (i + 1) = cnt H i + 0) := cnt_step_no H i HHi.out
                    have HBc : Hid (cnt H (i + 1 - key.size) = cnt H (i - key.size) + 1) := back_yes H i key.size (by omega) HHb.out
                    obtain ⟨M, rfl⟩ : ∃ M, L = M + 1 := ⟨L - 1, by have h1 := HLc.out; have h2 := HA.out; have h3 := HBc.out; have h4 := mono_to H (i + 1 - key.size) (i + 1) (by omega); omega⟩
                    have HL2 : Hid (M + cnt H (i + 1 - key.size) = cnt H (i + 1)) := by have h1 := HLc.out; have h2 := HA.out; have h3 := HBc.out; show M + cnt H (i + 1 - key.size) = cnt H (i + 1); omega
                    by_cases hp : 0 < M
                    · have hpI : (0 : Int) < (M : Int) := by omega
                      have hiff := live_iff HHIT.out i
                      have HCV : Hid (Cov s key (s.size + 1) i) := hiff.1 (by have := HL2.out; omega)
                      clear hiff
                      go_wp2_with fail
                      exact ⟨⟨i + 1, M, fun j => if j = i then F else g j, by go_num, by go_num, by omega, HL2.out, out_yes HOUT.out HCV.out, (HR2.out.set h1 (.int .u8 (F : Nat))).congr fun j hj => by show (if j = i then Value.int .u8 (F : Nat) else Value.int .u8 (g j)) = Value.int .u8 ((if j = i then F else g j : Nat)); split <;> rfl, HR1.out.grown (grownBy_setCell _ _ _ _) HS1.out HNE.out, HBL.out.setCell HW2.out _, by rw [World.size_setCell]; exact HS1.out⟩, by simp [intOf]; omega⟩
                    · have hpI : ¬ (0 : Int) < (M : Int) := by omega
                      have hiff := live_iff HHIT.out i
                      have HCV : Hid (¬ Cov s key (s.size + 1) i) := fun h => by have h2 := hiff.2 h; have := HL2.out; omega
                      clear hiff
                      go_wp2_with fail
                      exact ⟨⟨i + 1, M, fun j => if j = i then y else g j, by go_num, by go_num, by omega, HL2.out, out_no HOUT.out HCV.out HY.out, (HR2.out.set h1 (.int .u8 (y : Nat))).congr fun j hj => by show (if j = i then Value.int .u8 (y : Nat) else Value.int .u8 (g j)) = Value.int .u8 ((if j = i then y else g j : Nat)); split <;> rfl, HR1.out.grown (grownBy_setCell _ _ _ _) HS1.out HNE.out, HBL.out.setCell HW2.out _, by rw [World.size_setCell]; exact HS1.out⟩, by simp [intOf]; omega⟩
                · have hBI : ¬ (0 : Int) ≤ (i : Int) - (key.size : Int) := by omega
                  have HA : Hid (cnt H (i + 1) = cnt H i + 0) := cnt_step_no H i HHi.out
                  have HBc : Hid (cnt H (i + 1 - key.size) = cnt H (i - key.size) + 0) := back_low H i key.size (by omega)
                  have HL2 : Hid (L + cnt H (i + 1 - key.size) = cnt H (i + 1)) := by have h1 := HLc.out; have h2 := HA.out; have h3 := HBc.out; show L + cnt H (i + 1 - key.size) = cnt H (i + 1); omega
                  by_cases hp : 0 < L
                  · have hpI : (0 : Int) < (L : Int) := by omega
                    have hiff := live_iff HHIT.out i
                    have HCV : Hid (Cov s key (s.size + 1) i) := hiff.1 (by have := HL2.out; omega)
                    clear hiff
                    go_wp2_with fail
                    exact ⟨⟨i + 1, L, fun j => if j = i then F else g j, by go_num, by go_num, by omega, HL2.out, out_yes HOUT.out HCV.out, (HR2.out.set h1 (.int .u8 (F : Nat))).congr fun j hj => by show (if j = i then Value.int .u8 (F : Nat) else Value.int .u8 (g j)) = Value.int .u8 ((if j = i then F else g j : Nat)); split <;> rfl, HR1.out.grown (grownBy_setCell _ _ _ _) HS1.out HNE.out, HBL.out.setCell HW2.out _, by rw [World.size_setCell]; exact HS1.out⟩, by simp [intOf]; omega⟩
                  · have hpI : ¬ (0 : Int) < (L : Int) := by omega
                    have hiff := live_iff HHIT.out i
                    have HCV : Hid (¬ Cov s key (s.size + 1) i) := fun h => by have h2 := hiff.2 h; have := HL2.out; omega
                    clear hiff
                    go_wp2_with fail
                    exact ⟨⟨i + 1, L, fun j => if j = i then y else g j, by go_num, by go_num, by omega, HL2.out, out_no HOUT.out HCV.out HY.out, (HR2.out.set h1 (.int .u8 (y : Nat))).congr fun j hj => by show (if j = i then Value.int .u8 (y : Nat) else Value.int .u8 (g j)) = Value.int .u8 ((if j = i then y else g j : Nat)); split <;> rfl, HR1.out.grown (grownBy_setCell _ _ _ _) HS1.out HNE.out, HBL.out.setCell HW2.out _, by rw [World.size_setCell]; exact HS1.out⟩, by simp [intOf]; omega⟩
            · have h1I : ¬ (i : Int) < (s.size : Int) := by omega
              have HLT : Hid (∀ j, j < s.size → g j < 256) := fun j hj => out_lt HOUT.out HFL.out j (by omega)
              have hlen : ((List.range s.size).map fun j => UInt8.ofNat (g j)).length = s.size := by simp
              have hcv := run_convert_bytes_back (P := Tryd.prog) wr 26 9 5 ⟨B2, 0, none⟩ s.size ((List.range s.size).map fun j => UInt8.ofNat (g j)) Tryd.underlying26 Tryd.underlying5 Tryd.underlying9 (fun j hj => by
                have hj' : j < s.size := by simpa using hj
                have hadd : (⟨B2, 0, none⟩ : Addr).add j = ⟨B2, j, none⟩ := by unfold Addr.add; split <;> simp_all
                rw [hadd, (HR2.out j hj').1]
                simp only [List.getElem_map, List.getElem_range]
                rw [u8_nat (HLT.out j hj')])
              rw [hlen] at hcv
              obtain ⟨r, hr⟩ : ∃ r : ByteArray, (⟨((List.range s.size).map fun j => UInt8.ofNat (g j)).toArray⟩ : ByteArray) = r := ⟨_, rfl⟩
              rw [hr] at hcv
              have HR : Hid (r.size = s.size ∧ ∀ j, j < s.size → bt r j = g j) := by rw [← hr]; exact bt_made s.size g HLT.out
              clear hlen hr
              go_wp2_with fail
              go_ret
              refine ⟨r, rfl, HR.out.1, fun j hj => ?_, HBL.out⟩
              rw [HR.out.2 j hj, HF.out]
              exact HOUT.out j (by omega)
end Go.Proofs.Qxb6604104aDoor
