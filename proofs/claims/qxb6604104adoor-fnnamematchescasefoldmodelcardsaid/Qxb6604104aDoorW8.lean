import Derived.Test.Qxb6604104aDoorW6
import Derived.Laws.IdiomStrings
import Derived.Lib.SliceRun
namespace Go.Proofs.Qxb6604104aDoor
open Go.RowKit
set_option linter.unusedSimpArgs false
set_option linter.unusedVariables false

/-- Place j lies in a window below i that is the key up to case. -/
def Cov (s key : ByteArray) (i j : Nat) : Prop := ∃ k, k < i ∧ k + key.size ≤ s.size ∧ Mt s key k ∧ k ≤ j ∧ j < k + key.size
/-- Whatever the masked string is, place by place. -/
def Mkd (s key : ByteArray) (f i : Nat) (g : Nat → Nat) : Prop := ∀ j, j < s.size → (Cov s key i j → g j = f) ∧ (¬ Cov s key i j → g j = bt s j)
theorem cov_no {s key : ByteArray} {i j : Nat} (hm : ¬ Mt s key i) : Cov s key (i + 1) j ↔ Cov s key i j := by
  constructor
  · rintro ⟨k, h1, h2, h3, h4⟩
    exact ⟨k, by rcases Nat.lt_or_ge k i with h | h; exact h; exact absurd (by rw [show k = i by omega] at h3; exact h3) hm, h2, h3, h4⟩
  · rintro ⟨k, h1, h2⟩
    exact ⟨k, by omega, h2⟩
theorem cov_yes {s key : ByteArray} {i j : Nat} (hi : i + key.size ≤ s.size) (hm : Mt s key i) : Cov s key (i + 1) j ↔ (Cov s key i j ∨ (i ≤ j ∧ j < i + key.size)) := by
  constructor
  · rintro ⟨k, h1, h2, h3, h4⟩
    by_cases e : k = i
    · subst e; exact .inr h4
    · exact .inl ⟨k, by omega, h2, h3, h4⟩
  · rintro (⟨k, h1, h2⟩ | h)
    · exact ⟨k, by omega, h2⟩
    · exact ⟨i, by omega, hi, hm, h⟩
theorem mkd_no {s key : ByteArray} {f i : Nat} {g : Nat → Nat} (h : Mkd s key f i g) (hm : ¬ Mt s key i) : Mkd s key f (i + 1) g := fun j hj => by
  rw [cov_no hm]; exact h j hj
theorem mkd_yes {s key : ByteArray} {f i : Nat} {g : Nat → Nat} (h : Mkd s key f i g) (hi : i + key.size ≤ s.size) (hm : Mt s key i) : Mkd s key f (i + 1) (fun j => if i ≤ j ∧ j < i + key.size then f else g j) := fun j hj => by
  rw [cov_yes hi hm]
  by_cases e : i ≤ j ∧ j < i + key.size
  · exact ⟨fun _ => if_pos e, fun hn => absurd (.inr e) hn⟩
  · show (_ → (if _ then _ else _) = _) ∧ (_ → (if _ then _ else _) = _)
    rw [if_neg e]
    exact ⟨fun hc => (h j hj).1 (hc.resolve_right e), fun hc => (h j hj).2 fun h' => hc (.inl h')⟩
theorem mkd_zero (s key : ByteArray) (f : Nat) : Mkd s key f 0 (bt s) := fun j hj => ⟨fun ⟨k, h, _⟩ => absurd h (by omega), fun _ => rfl⟩
theorem Mkd.congr {s key : ByteArray} {f i : Nat} {g g' : Nat → Nat} (h : Mkd s key f i g) (e : ∀ j, j < s.size → g' j = g j) : Mkd s key f i g' := fun j hj => by rw [e j hj]; exact h j hj
theorem mkd_all {s key : ByteArray} {f i : Nat} {g : Nat → Nat} (h : Mkd s key f i g) (hi : s.size < i + key.size) : Mkd s key f (s.size + 1) g := by
  have : ∀ j, Cov s key (s.size + 1) j ↔ Cov s key i j := fun j => by
    constructor
    · rintro ⟨k, h1, h2, h3⟩
      exact ⟨k, by omega, h2, h3⟩
    · rintro ⟨k, h1, h2, h3⟩
      exact ⟨k, by omega, h2, h3⟩
  intro j hj
  rw [this j]
  exact h j hj
/-- The loop's memory: no match so far, or the copy. -/
def Nm (s key : ByteArray) (f H : Nat) (i : Nat) (b : Value) (wr : World) : Prop :=
  (b = .slice none 0 0 ∧ Mkd s key f i (bt s)) ∨ ∃ B C g, b = .slice (some ⟨B, 0, none⟩) s.size C ∧ H < B ∧ B < wr.heap.size ∧ s.size ≤ C ∧ Mkd s key f i g ∧ Row wr B s.size (fun j => .int .u8 (g j))
theorem Nm.far {s key : ByteArray} {f H i : Nat} {b : Value} {wr wr' : World} (h : Nm s key f H i b wr) (hb : Below wr.heap.size wr wr') : Nm s key f H i b wr' := by
  rcases h with h | ⟨B, C, g, h1, h2, h3, h4, h5, h6⟩
  · exact .inl h
  · exact .inr ⟨B, C, g, h1, h2, Nat.lt_of_lt_of_le h3 hb.size, h4, h5, h6.below hb h3⟩
theorem Nm.no {s key : ByteArray} {f H i : Nat} {b : Value} {wr : World} (h : Nm s key f H i b wr) (hm : ¬ Mt s key i) : Nm s key f H (i + 1) b wr := by
  rcases h with ⟨h1, h2⟩ | ⟨B, C, g, h1, h2, h3, h4, h5, h6⟩
  · exact .inl ⟨h1, mkd_no h2 hm⟩
  · exact .inr ⟨B, C, g, h1, h2, h3, h4, mkd_no h5 hm, h6⟩
theorem row_bytes (wr : World) (e : TypeId) (s : ByteArray) : Row (Lib.bytesWorld wr e s) wr.heap.size s.size (fun j => .int .u8 (bt s j)) := by
  intro j hj
  refine ⟨?_, ?_⟩
  · rw [Lib.bytesWorld_cell wr e s j hj, getD_bt s j hj]
  · simp [World.frozen?, Lib.bytesWorld_at_new, Lib.bytesCells]
    omega
theorem mkd_lt {s key : ByteArray} {f i : Nat} {g : Nat → Nat} (h : Mkd s key f i g) (hf : f < 256) (j : Nat) (hj : j < s.size) : g j < 256 := by
  by_cases hc : Cov s key i j
  · rw [(h j hj).1 hc]; exact hf
  · rw [(h j hj).2 hc]; exact bt_lt _ _
theorem u8_nat {n : Nat} (h : n < 256) : (UInt8.ofNat n).toNat = n := by simp; omega
theorem bt_made (n : Nat) (g : Nat → Nat) (hg : ∀ j, j < n → g j < 256) : (⟨((List.range n).map fun j => UInt8.ofNat (g j)).toArray⟩ : ByteArray).size = n ∧ ∀ j, j < n → bt (⟨((List.range n).map fun j => UInt8.ofNat (g j)).toArray⟩ : ByteArray) j = g j := by
  have hz : (⟨((List.range n).map fun j => UInt8.ofNat (g j)).toArray⟩ : ByteArray).size = n := by simp [ByteArray.size]
  refine ⟨hz, fun j hj => ?_⟩
  have hj' : j < (⟨((List.range n).map fun j => UInt8.ofNat (g j)).toArray⟩ : ByteArray).size := by omega
  rw [← getD_bt _ _ hj']
  simp [hj]
  have := hg j hj
  omega
/-- The box that holds the masker. -/
def Box (key : ByteArray) (ka : Option Addr) (kn kc f : Nat) (po : Option Addr) (H : Nat) (wr : World) : Prop := wr.heap[H]? = some (.cells #[.string key, .slice ka kn kc, .int .u8 f, .pointer po] 29 (0, 0))
set_option maxRecDepth 100000 in
set_option maxHeartbeats 2000000 in
theorem name_any (key s : ByteArray) (ka : Option Addr) (kn kc f : Nat) (po : Option Addr) (w : World) (hf : f < 256) (hs : s.size ≤ 65536) (hk : Asc key) (hks : key.size ≤ 4096) (ht : Tabs w) :
    Calls Tryd.prog 13 #[.agg #[.string key, .slice ka kn kc, .int .u8 f, .pointer po], .string s] w fun e w' => ∃ r : ByteArray, e = .returned (.string r) ∧ r.size = s.size ∧ Mkd s key f (s.size + 1) (bt r) ∧ Below w.heap.size w w' := by
  have HTB : Hid (Tabs w) := ht
  have HK : Hid (Asc key) := hk
  clear ht hk
  have hbx : Box key ka kn kc f po w.heap.size (w.alloc (.cells #[.string key, .slice ka kn kc, .int .u8 f, .pointer po] 29)) := heap_alloc_last _ _
  have hbl : Below w.heap.size w (w.alloc (.cells #[.string key, .slice ka kn kc, .int .u8 f, .pointer po] 29)) := (Below.refl _ w).alloc (Nat.le_refl _) _
  have HBX : Hid (Box key ka kn kc f po w.heap.size (w.alloc (.cells #[.string key, .slice ka kn kc, .int .u8 f, .pointer po] 29))) := hbx
  have HBL : Hid (Below w.heap.size w (w.alloc (.cells #[.string key, .slice ka kn kc, .int .u8 f, .pointer po] 29))) := hbl
  clear hbx hbl
  have hq : ∀ (w : World) (a : Option Addr) (n c : Nat), (binOp .eql 26 (.slice a n c) (.slice none 0 0)).run Tryd.prog w = .ok (.bool a.isNone) w := fun w a n c => Lib.run_eql_slice_nil w 26 5 a n c 0 0 Tryd.underlying26
  go_enter Tryd.func13, Tryd.ntmps13
  go_wp2
  obtain ⟨W, hW⟩ : ∃ W, w.alloc (.cells #[.string key, .slice ka kn kc, .int .u8 f, .pointer po] 29) = W := ⟨_, rfl⟩
  rw [hW] at HBX HBL ⊢
  clear hW
  go_loopw [5, 6] (fun b x wr => ∃ i : Nat, x = .int .i64 i ∧ i ≤ s.size + 1 ∧ (i = 0 ∨ i + key.size ≤ s.size + 1) ∧ Nm s key f w.heap.size i b wr ∧ Box key ka kn kc f po w.heap.size wr ∧ Below w.heap.size w wr) (fun _ x _ => s.size + 1 - (intOf x).toNat)
  case atStart => exact ⟨0, rfl, Nat.zero_le _, .inl rfl, .inl ⟨rfl, mkd_zero _ _ _⟩, HBX.out, HBL.out⟩
  case round =>
    obtain ⟨i, rfl, hi, hik, hnm, hbx, hbl⟩ := hrel
    have HIK : Hid (i = 0 ∨ i + key.size ≤ s.size + 1) := hik
    have HNM : Hid (Nm s key f w.heap.size i u5 wr) := hnm
    have HBXr : Hid (Box key ka kn kc f po w.heap.size wr) := hbx
    have HBLr : Hid (Below w.heap.size w wr) := hbl
    have c0 : wr.cell? ⟨w.heap.size, 0, none⟩ = some (.string key) := cell_of_row _ _ _ _ _ _ hbx
    clear hik hnm hbx hbl
    by_cases h1 : i + key.size ≤ s.size
    · have h2 : (i : Int) + (key.size : Int) ≤ (s.size : Int) := by omega
      have i4 : IntKind.i64.wrap ((i : Int) + (key.size : Int)) = (i : Int) + (key.size : Int) := IntWalk.i64_in _ (by omega)
      have i5 : ((i : Int) + (key.size : Int)).toNat = i + key.size := by omega
      have i6 : (i : Int) ≤ (i : Int) + (key.size : Int) := by omega
      have i7 : (0 : Int) ≤ (i : Int) + (key.size : Int) := by omega
      go_wp2_with fail
      refine wp_region_still_tail 10 (by kernel_rfl) (by kernel_rfl) ?_
      have d0 : ({ wr with drawn := wr.drawn + 1 } : World).cell? ⟨w.heap.size, 0, none⟩ = some (.string key) := c0
      obtain ⟨W1, hW1⟩ : ∃ W1, ({ wr with drawn := wr.drawn + 1 } : World) = W1 := ⟨_, rfl⟩
      have HB1 : Hid (Below wr.heap.size wr W1) := by show Below wr.heap.size wr W1; rw [← hW1]; exact (Below.refl _ _).drew
      rw [hW1] at d0 ⊢
      clear hW1
      simp only [List.take_succ_cons, List.take_zero, List.drop_succ_cons, List.drop_zero]
      iterate 10 still_step
      refine wpStill_nil ?_
      go_wp2_with fail
      have hb1 : Below w.heap.size w W1 := HBLr.out.trans (HB1.out.mono HBLr.out.size)
      refine (ef_any s i key W1 h1 hs HK.out (HTB.out.later hb1)).mono ?_
      rintro e w2 ⟨b, rfl, hb, hbw2⟩
      have HNM2 : Hid (Nm s key f w.heap.size i u5 w2) := (HNM.out.far HB1.out).far hbw2
      have HB2 : Hid (Below w.heap.size w w2) := hb1.trans (hbw2.mono hb1.size)
      have HLH : Hid (w.heap.size < wr.heap.size) := by show w.heap.size < wr.heap.size; exact (Array.getElem?_eq_some_iff.1 HBXr.out).1
      have HBX2 : Hid (Box key ka kn kc f po w.heap.size w2) := by
        show Box key ka kn kc f po w.heap.size w2
        unfold Box
        rw [hbw2.block _ (Nat.lt_of_lt_of_le HLH.out HB1.out.size), HB1.out.block _ HLH.out]
        exact HBXr.out
      clear hb1 hbw2
      cases b with
      | false =>
        have HMT : Hid (¬ Mt s key i) := fun hm => absurd (hb.2 hm) (by decide)
        clear hb
        go_wp2_with fail
        exact ⟨⟨i + 1, by go_num, by omega, .inr (by omega), HNM2.out.no HMT.out, HBX2.out, HB2.out⟩, by simp [intOf]; omega⟩
      | true =>
        have HMT : Hid (Mt s key i) := hb.1 rfl
        clear hb
        rcases HNM2.out with ⟨rfl, hmk⟩ | ⟨B, C, g, rfl, hHB, hBs, hSC, hmk, hrow⟩
        · have hconv := Lib.run_convert_string_bytes (P := Tryd.prog) w2 9 26 5 s Tryd.underlying9 Tryd.underlying26 Tryd.underlying5
          have hrow := row_bytes w2 5 s
          have hsz := Lib.bytesWorld_size w2 5 s
          have hSC := grownCap_ge w2 s.size 0 5
          have hbb : Below w2.heap.size w2 (Lib.bytesWorld w2 5 s) := ⟨rfl, rfl, rfl, by rw [hsz]; omega, fun k hk => Lib.bytesWorld_at_old w2 5 s k hk⟩
          obtain ⟨WX, hWX⟩ : ∃ WX, Lib.bytesWorld w2 5 s = WX := ⟨_, rfl⟩
          obtain ⟨C, hC⟩ : ∃ C, grownCap w2 s.size 0 5 = C := ⟨_, rfl⟩
          obtain ⟨B, hB⟩ : ∃ B, w2.heap.size = B := ⟨_, rfl⟩
          have hHB : w.heap.size < w2.heap.size := (Array.getElem?_eq_some_iff.1 HBX2.out).1
          have HBLx : Hid (Below w.heap.size w (Lib.bytesWorld w2 5 s)) := HB2.out.trans (hbb.mono HB2.out.size)
          have HBXx : Hid (Box key ka kn kc f po w.heap.size (Lib.bytesWorld w2 5 s)) := by
            show Box key ka kn kc f po w.heap.size (Lib.bytesWorld w2 5 s)
            unfold Box
            rw [hbb.block _ hHB]
            exact HBX2.out
          rw [hWX] at hconv hrow hsz HBLx HBXx
          rw [hC] at hconv hSC
          rw [hB] at hconv hrow hsz hHB
          have hBs : B < WX.heap.size := by omega
          have ⟨g, hg⟩ : ∃ g, bt s = g := ⟨_, rfl⟩
          rw [hg] at hrow hmk
          have HHB : Hid (w.heap.size < B) := hHB
          have HBs : Hid (B < WX.heap.size) := hBs
          have HSC : Hid (s.size ≤ C) := hSC
          have HMK : Hid (Mkd s key f i g) := hmk
          have HROW : Hid (Row WX B s.size (fun j => .int .u8 (g j))) := hrow
          have i8 : (i : Int) + (key.size : Int) ≤ (C : Int) := by omega
          clear hg hmk hrow hsz hbb hB hC hWX hHB hBs hSC
          go_wp2_with fail
          refine wp_region_still_tail 9 (by kernel_rfl) (by kernel_rfl) ?_
          have e0 : ({ WX with drawn := WX.drawn + 1 } : World).cell? ⟨w.heap.size, 0, none⟩ = some (.string key) := cell_of_row _ _ _ _ _ _ HBXx.out
          have e1 : ({ WX with drawn := WX.drawn + 1 } : World).cell? ⟨w.heap.size, 1, none⟩ = some (.slice ka kn kc) := cell_of_row _ _ _ _ _ _ HBXx.out
          have e2 : ({ WX with drawn := WX.drawn + 1 } : World).cell? ⟨w.heap.size, 2, none⟩ = some (.int .u8 f) := cell_of_row _ _ _ _ _ _ HBXx.out
          have e3 : ({ WX with drawn := WX.drawn + 1 } : World).cell? ⟨w.heap.size, 3, none⟩ = some (.pointer po) := cell_of_row _ _ _ _ _ _ HBXx.out
          obtain ⟨W3, hW3⟩ : ∃ W3, ({ WX with drawn := WX.drawn + 1 } : World) = W3 := ⟨_, rfl⟩
          have HB3 : Hid (Below WX.heap.size WX W3) := by show Below WX.heap.size WX W3; rw [← hW3]; exact (Below.refl _ _).drew
          rw [hW3] at e0 e1 e2 e3 ⊢
          clear hW3
          simp only [List.take_succ_cons, List.take_zero, List.drop_succ_cons, List.drop_zero]
          iterate 9 still_step
          refine wpStill_nil ?_
          go_wp2_with fail
          all_goals
            refine (cover_any key (.slice ka kn kc) (.pointer po) f B i key.size s.size _ _ (fun j => .int .u8 (g j)) W3 (fun h0 => by first | rfl | (exfalso; omega)) h1 hs (Nat.lt_of_lt_of_le HBs.out HB3.out.size) (HROW.out.below HB3.out HBs.out)).mono ?_
            rintro e w4 ⟨rfl, hg4, hrow4⟩
            have hbx4 : Box key ka kn kc f po w.heap.size w4 := by
              unfold Box
              rw [hg4.block _ (by have := HB3.out.size; have := HBs.out; have := HHB.out; omega) (by have := HHB.out; simp; omega), HB3.out.block _ (by have := HBs.out; have := HHB.out; omega)]
              exact HBXx.out
            have hbl4 : Below w.heap.size w w4 := (HBLx.out.trans (HB3.out.mono (by have := HBs.out; have := HHB.out; omega))).grown hg4 (by have := HB3.out.size; have := HBs.out; have := HHB.out; omega) (by intro k hk; have := HHB.out; cases hk; omega)
            have hnm4 : ∀ C', s.size ≤ C' → Nm s key f w.heap.size (i + 1) (.slice (some ⟨B, 0, none⟩) s.size C') w4 := fun C' hC' => .inr ⟨B, C', _, rfl, HHB.out, Nat.lt_of_lt_of_le (Nat.lt_of_lt_of_le HBs.out HB3.out.size) hg4.size, hC', mkd_yes HMK.out h1 HMT.out, hrow4.congr fun j hj => by split <;> rfl⟩
            have HNM4 : Hid (∀ C', s.size ≤ C' → Nm s key f w.heap.size (i + 1) (.slice (some ⟨B, 0, none⟩) s.size C') w4) := hnm4
            have HBX4 : Hid (Box key ka kn kc f po w.heap.size w4) := hbx4
            have HBL4 : Hid (Below w.heap.size w w4) := hbl4
            clear hg4 hrow4 hnm4 hbx4 hbl4
            go_wp2_with fail
            exact ⟨⟨i + 1, by go_num, by omega, .inr (by omega), HNM4.out _ (by first | exact HSC.out | (have := HSC.out; omega)), HBX4.out, HBL4.out⟩, by simp [intOf]; omega⟩
        · obtain ⟨WX, hWX⟩ : ∃ WX, w2 = WX := ⟨_, rfl⟩
          rw [hWX] at HBX2 HB2 HNM2 hBs hrow
          have HBLx : Hid (Below w.heap.size w WX) := HB2
          have HBXx : Hid (Box key ka kn kc f po w.heap.size WX) := HBX2
          have HHB : Hid (w.heap.size < B) := hHB
          have HBs : Hid (B < WX.heap.size) := hBs
          have HSC : Hid (s.size ≤ C) := hSC
          have HMK : Hid (Mkd s key f i g) := hmk
          have HROW : Hid (Row WX B s.size (fun j => .int .u8 (g j))) := hrow
          have i8 : (i : Int) + (key.size : Int) ≤ (C : Int) := by omega
          rw [hWX]
          clear hmk hrow hHB hBs hSC hWX
          go_wp2_with fail
          refine wp_region_still_tail 9 (by kernel_rfl) (by kernel_rfl) ?_
          have e0 : ({ WX with drawn := WX.drawn + 1 } : World).cell? ⟨w.heap.size, 0, none⟩ = some (.string key) := cell_of_row _ _ _ _ _ _ HBXx.out
          have e1 : ({ WX with drawn := WX.drawn + 1 } : World).cell? ⟨w.heap.size, 1, none⟩ = some (.slice ka kn kc) := cell_of_row _ _ _ _ _ _ HBXx.out
          have e2 : ({ WX with drawn := WX.drawn + 1 } : World).cell? ⟨w.heap.size, 2, none⟩ = some (.int .u8 f) := cell_of_row _ _ _ _ _ _ HBXx.out
          have e3 : ({ WX with drawn := WX.drawn + 1 } : World).cell? ⟨w.heap.size, 3, none⟩ = some (.pointer po) := cell_of_row _ _ _ _ _ _ HBXx.out
          obtain ⟨W3, hW3⟩ : ∃ W3, ({ WX with drawn := WX.drawn + 1 } : World) = W3 := ⟨_, rfl⟩
          have HB3 : Hid (Below WX.heap.size WX W3) := by show Below WX.heap.size WX W3; rw [← hW3]; exact (Below.refl _ _).drew
          rw [hW3] at e0 e1 e2 e3 ⊢
          clear hW3
          simp only [List.take_succ_cons, List.take_zero, List.drop_succ_cons, List.drop_zero]
          iterate 9 still_step
          refine wpStill_nil ?_
          go_wp2_with fail
          all_goals
            refine (cover_any key (.slice ka kn kc) (.pointer po) f B i key.size s.size _ _ (fun j => .int .u8 (g j)) W3 (fun h0 => by first | rfl | (exfalso; omega)) h1 hs (Nat.lt_of_lt_of_le HBs.out HB3.out.size) (HROW.out.below HB3.out HBs.out)).mono ?_
            rintro e w4 ⟨rfl, hg4, hrow4⟩
            have hbx4 : Box key ka kn kc f po w.heap.size w4 := by
              unfold Box
              rw [hg4.block _ (by have := HB3.out.size; have := HBs.out; have := HHB.out; omega) (by have := HHB.out; simp; omega), HB3.out.block _ (by have := HBs.out; have := HHB.out; omega)]
              exact HBXx.out
            have hbl4 : Below w.heap.size w w4 := (HBLx.out.trans (HB3.out.mono (by have := HBs.out; have := HHB.out; omega))).grown hg4 (by have := HB3.out.size; have := HBs.out; have := HHB.out; omega) (by intro k hk; have := HHB.out; cases hk; omega)
            have hnm4 : ∀ C', s.size ≤ C' → Nm s key f w.heap.size (i + 1) (.slice (some ⟨B, 0, none⟩) s.size C') w4 := fun C' hC' => .inr ⟨B, C', _, rfl, HHB.out, Nat.lt_of_lt_of_le (Nat.lt_of_lt_of_le HBs.out HB3.out.size) hg4.size, hC', mkd_yes HMK.out h1 HMT.out, hrow4.congr fun j hj => by split <;> rfl⟩
            have HNM4 : Hid (∀ C', s.size ≤ C' → Nm s key f w.heap.size (i + 1) (.slice (some ⟨B, 0, none⟩) s.size C') w4) := hnm4
            have HBX4 : Hid (Box key ka kn kc f po w.heap.size w4) := hbx4
            have HBL4 : Hid (Below w.heap.size w w4) := hbl4
            clear hg4 hrow4 hnm4 hbx4 hbl4
            go_wp2_with fail
            exact ⟨⟨i + 1, by go_num, by omega, .inr (by omega), HNM4.out _ (by first | exact HSC.out | (have := HSC.out; omega)), HBX4.out, HBL4.out⟩, by simp [intOf]; omega⟩
    · have h2 : ¬ (i : Int) + (key.size : Int) ≤ (s.size : Int) := by omega
      have HALL : ∀ g, Mkd s key f i g → Mkd s key f (s.size + 1) g := fun g h => mkd_all h (by omega)
      have HAL : Hid (∀ g, Mkd s key f i g → Mkd s key f (s.size + 1) g) := HALL
      clear HALL
      rcases HNM.out with ⟨rfl, hmk⟩ | ⟨B, C, g, rfl, hHB, hBs, hSC, hmk, hrow⟩
      · have HMK : Hid (Mkd s key f i (bt s)) := hmk
        clear hmk
        go_wp2_with fail
        go_ret
        exact ⟨s, rfl, rfl, HAL.out _ HMK.out, HBLr.out⟩
      · have hlen : ((List.range s.size).map fun j => UInt8.ofNat (g j)).length = s.size := by simp
        have hcv := run_convert_bytes_back (P := Tryd.prog) wr 26 9 5 ⟨B, 0, none⟩ C ((List.range s.size).map fun j => UInt8.ofNat (g j)) Tryd.underlying26 Tryd.underlying5 Tryd.underlying9 (fun j hj => by
          have hj' : j < s.size := by simpa using hj
          have hadd : (⟨B, 0, none⟩ : Addr).add j = ⟨B, j, none⟩ := by unfold Addr.add; split <;> simp_all
          rw [hadd, (hrow j hj').1]
          simp only [List.getElem_map, List.getElem_range]
          rw [u8_nat (mkd_lt hmk hf j hj')])
        rw [hlen] at hcv
        obtain ⟨r, hr⟩ : ∃ r : ByteArray, (⟨((List.range s.size).map fun j => UInt8.ofNat (g j)).toArray⟩ : ByteArray) = r := ⟨_, rfl⟩
        rw [hr] at hcv
        have HR : Hid (r.size = s.size ∧ ∀ j, j < s.size → bt r j = g j) := by rw [← hr]; exact bt_made s.size g (fun j hj => mkd_lt hmk hf j hj)
        have HMK : Hid (Mkd s key f i g) := hmk
        clear hmk hrow hlen hr
        go_wp2_with fail
        go_ret
        exact ⟨r, rfl, HR.out.1, (HAL.out _ HMK.out).congr HR.out.2, HBLr.out⟩
/-- What name answers. -/
def Ans (s key : ByteArray) (w : World) (e : Ending) (w' : World) : Prop := ∃ r : ByteArray, e = .returned (.string r) ∧ r.size = s.size ∧ Mkd s key (fk key) (s.size + 1) (bt r) ∧ Below w.heap.size w w'
set_option maxHeartbeats 1000000 in
theorem zname_any (key s : ByteArray) (w : World) (hs : s.size ≤ 65536) (hk : Asc key) (hks : key.size ≤ 4096) (ht : Tabs w) :
    Calls Tryd.prog 7 #[.string key, .string s] w (Ans s key w) := by
  go_enter Tryd.func7, Tryd.ntmps7
  go_wp2_with fail
  refine (newMasker_any key w hks).mono ?_
  rintro e w' ⟨ka, kn, kc, po, rfl, hpo, hbw⟩
  have HB : Hid (Below w.heap.size w w') := hbw
  clear hpo hbw
  have hcall := name_any key s ka kn kc (fk key) po w' (fk_lt key) hs hk hks (ht.later HB.out)
  obtain ⟨F, hF⟩ : ∃ F, fk key = F := ⟨_, rfl⟩
  have HF : Hid (fk key = F) := hF
  rw [hF] at hcall ⊢
  clear hF
  go_wp2_with fail
  refine hcall.mono ?_
  rintro e w2 ⟨r, rfl, hr, hm, hb2⟩
  have HR : Hid (r.size = s.size) := hr
  have HM : Hid (Mkd s key F (s.size + 1) (bt r)) := hm
  have HB2 : Hid (Below w'.heap.size w' w2) := hb2
  clear hr hm hb2 hcall
  go_wp2_with fail
  go_ret
  exact ⟨r, rfl, HR.out, by rw [HF.out]; exact HM.out, HB.out.trans (HB2.out.mono HB.out.size)⟩
end Go.Proofs.Qxb6604104aDoor
