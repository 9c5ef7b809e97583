import Derived.Test.Qxb6604104aDoorW1
import Derived.ScopeJumps
import Derived.Deep.LoopGhost
import Derived.Deep.DeepCutAuto
import Derived.Deep.CutBlock
import Derived.Lib.OthersKept
import Derived.Lib.TrimU
import Derived.Lib.QuoteLoop
import Derived.Laws.RangeAny
namespace Go.Proofs.Qxb6604104aDoor
open Go.RowKit
set_option linter.unusedSimpArgs false
set_option linter.unusedVariables false

theorem or_nat {x y : Nat} (hx : x < 256) (hy : y < 256) : bits .or .u8 (x : Int) (y : Int) = ((x ||| y : Nat) : Int) := u8_or_nat _ _ hx hy
theorem or_low {x y : Nat} (hx : x < 128) (hy : y < 128) : bits .or .u8 (x : Int) (y : Int) < 128 := by
  rw [or_nat (by omega) (by omega)]
  have := Nat.or_lt_two_pow (n := 7) hx hy; omega
theorem or_high {x : UInt8} {y : Nat} (hx : 128 ≤ x.toNat) (hy : y < 256) : 128 ≤ bits .or .u8 (x.toNat : Int) (y : Int) := by
  rw [or_nat x.toNat_lt hy]
  have := Nat.left_le_or (n := x.toNat) (m := y); omega
theorem wd_le (s : ByteArray) (pos : Nat) (h : pos < s.size) : pos + (Utf8.decode s pos).2 ≤ s.size := by
  rw [Lib.decode_at]
  have := Lib.decodeN_width_le (s.size - pos) (s.get! pos).toNat (s.get! (pos + 1)).toNat (s.get! (pos + 2)).toNat (s.get! (pos + 3)).toNat (by omega)
  omega
theorem wd_bigN (n b0 b1 b2 b3 : Nat) : 128 ≤ (Lib.decodeN n b0 b1 b2 b3).1 → (Lib.decodeN n b0 b1 b2 b3).1 ≠ 65533 → 2 ≤ (Lib.decodeN n b0 b1 b2 b3).2 := by
  unfold Lib.decodeN
  (repeat' split) <;> intro h1 h2 <;> simp at h1 h2 ⊢ <;> omega
theorem wd_big (s : ByteArray) (pos : Nat) (h1 : 128 ≤ (Utf8.decode s pos).1) (h2 : (Utf8.decode s pos).1 ≠ 65533) : 2 ≤ (Utf8.decode s pos).2 := by
  rw [Lib.decode_at] at h1 h2 ⊢
  exact wd_bigN _ _ _ _ _ h1 h2
def Asc (t : ByteArray) : Prop := ∀ (j : Nat) (h : j < t.size), t[j].toNat < 128
theorem Tabs.later {w W : World} (h : Tabs w) (hb : Below w.heap.size w W) : Tabs W := by
  obtain ⟨h1, b, off, cap, a0, a1, a2, a3, a4, a5, a6, a7, a8, a9, a10, a11, a12, a13, a14, a15⟩ := h
  exact ⟨fun c hc => cell_later hb (h1 c hc), b, off, cap, cell_later hb a0, cell_later hb a1, cell_later hb a2, cell_later hb a3, cell_later hb a4, cell_later hb a5, cell_later hb a6, cell_later hb a7, cell_later hb a8, cell_later hb a9, cell_later hb a10, cell_later hb a11, cell_later hb a12, cell_later hb a13, cell_later hb a14, cell_later hb a15⟩
/-- SimpleFold, m times. -/
def it : Nat → Nat → Nat
  | 0, c => c
  | m + 1, c => sf (it m c)
def NotYet (c m : Nat) : Prop := ∀ j, 1 ≤ j → j < m → it j c ≠ c
theorem orb_it {c : Nat} (hc : c < 128) : ∀ m, Orb (it m c)
  | 0 => .inl hc
  | m + 1 => orb_sf _ (orb_it hc m)
theorem orb_le {c : Nat} (h : Orb c) : c ≤ 8490 := by unfold Orb at h; omega
theorem it_three {c : Nat} (hc : c < 128) (h : NotYet c 3) : it 3 c = c := by
  rcases orb_back c hc with h1 | h1 | h1
  · exact absurd h1 (h 1 (by omega) (by omega))
  · exact absurd h1 (h 2 (by omega) (by omega))
  · exact h1
theorem asc_tail {t : ByteArray} (h : Asc t) : Asc (t.extract 1 t.size) := fun j hj => by
  have hj2 : 1 + j < t.size := by simp at hj; omega
  have : (t.extract 1 t.size)[j] = t[1 + j] := by simp [ByteArray.getElem_extract]
  rw [this]; exact h _ _
theorem get_list (s : ByteArray) (k : Nat) (h : k < s.size) : s.data.toList[k]? = some s[k] := by
  rw [List.getElem?_eq_getElem (by simpa using h)]; rfl
/-- Between two runes. -/
def Inv (s2 : ByteArray) (w : World) (m : Nat) (tv : Value) (wr : World) : Prop := ∃ (pos q : Nat) (tr : ByteArray), wr.heap[w.heap.size]? = some (.stringIter s2 pos) ∧ Below w.heap.size w wr ∧ tv = .string tr ∧ tr.size + q = m ∧ Asc tr ∧ ((pos = 0 ∧ q = 0) ∨ q < pos) ∧ pos ≤ m
/-- Where the jump lands: the frame. -/
def Land (s t : ByteArray) (p : Nat) (w : World) (a' : Act) (w' : World) : Prop :=
  w' = w ∧ ∃ u4 u7 u8 u19 u20 u21 u22 u23 u24 u25 u26 u27 u28 u29 u30 u31 u32 u33 u34 u35 u36 u37 u38 u39 u40 u41 u42 u43 u44 u45 u46 u47 u48 u49 u50 u51 u52 u53 u54 : Value, a' = { tmps := #[.string s, .string t, undef, undef, u4, .int .i64 p, .int .i64 (min (s.size : Int) (t.size : Int)), u7, u8, undef, undef, undef, undef, undef, .string s, .int .i64 s.size, .string t, .int .i64 t.size, .int .i64 (min (s.size : Int) (t.size : Int)), u19, u20, u21, u22, u23, u24, u25, u26, u27, u28, u29, u30, u31, u32, u33, u34, u35, u36, u37, u38, u39, u40, u41, u42, u43, u44, u45, u46, u47, u48, u49, u50, u51, u52, u53, u54, undef, undef, undef, undef, undef, undef, undef, undef, undef, undef, undef, undef, undef, undef, undef, undef, undef, undef, undef, undef, undef, undef, undef, undef, undef, undef, undef, undef, undef, undef, undef, undef, undef, undef, undef, undef, undef, undef, undef, undef, undef, undef, undef, undef, undef, undef, undef, undef, undef, undef, undef, undef, undef, undef, undef, undef, undef, undef, undef, undef, undef, undef, undef, undef, undef, undef, undef, undef], defers := [] }

set_option maxRecDepth 1000000 in
set_option maxHeartbeats 400000 in
theorem ef_uni (s t : ByteArray) (w : World) (hz : s.size = t.size) (hs : s.size ≤ 65536) (p : Nat) (hp : p < s.size) (hb : 128 ≤ s[p].toNat) (hlo : ∀ (j : Nat) (h : j < s.size), j < p → s[j].toNat < 128) (hat : ∀ (j : Nat) (h : j < t.size), t[j].toNat < 128) (ht : Tabs w) :
    Calls Tryd.prog 17 #[.string s, .string t] w fun e w' => e = .returned (.bool false) ∧ Below w.heap.size w w' := by
  have HLO : Hid (∀ (j : Nat) (h : j < s.size), j < p → s[j].toNat < 128) := hlo
  have HAT : Hid (∀ (j : Nat) (h : j < t.size), t[j].toNat < 128) := hat
  have hz1 : s.size ≤ t.size := by omega
  have hz2 : t.size ≤ s.size := by omega
  have HZ : Hid (s.size = t.size) := hz
  clear hlo hat hz
  go_enter Tryd.func17, Tryd.ntmps17
  go_wp2
  refine wp_scope_jumps 0 (Land s t p w) (fun _ _ => 0) rfl ?first ?pass
  case first =>
    go_wp2
    go_loop [5] (fun x => ∃ i : Nat, i ≤ p ∧ x = .int .i64 i) (fun x => p + 1 - (intOf x).toNat)
    case atStart => exact ⟨0, Nat.zero_le _, rfl⟩
    case round =>
      obtain ⟨i, hi, rfl⟩ := hrel
      have hi1 : i < s.size := by omega
      have hi2 : i < t.size := by omega
      have hy := HAT.out i hi2
      by_cases hip : i < p
      · have hx := HLO.out i hi1 hip
        have hor : bits .or .u8 (s[i].toNat : Int) (t[i].toNat : Int) < 128 := or_low hx hy
        have hm : (i : Int) < min (s.size : Int) (t.size : Int) := by omega
        go_wp2
        all_goals first
          | (refine ⟨⟨i + 1, by omega, by go_num⟩, ?_⟩; simp [intOf]; omega)
          | (simp only [Exit.jump]; go_ret; exact ⟨rfl, Below.refl _ _⟩)
      · obtain rfl : i = p := by omega
        have hor : 128 ≤ bits .or .u8 (s[i].toNat : Int) (t[i].toNat : Int) := or_high hb (by omega)
        have hm : (i : Int) < min (s.size : Int) (t.size : Int) := by omega
        go_wp2
        go_step3
        refine ⟨rfl, rfl, ?_⟩
        repeat apply Exists.intro
        rfl
  case pass =>
    rintro a' w' ⟨hw, u4, u7, u8, u19, u20, u21, u22, u23, u24, u25, u26, u27, u28, u29, u30, u31, u32, u33, u34, u35, u36, u37, u38, u39, u40, u41, u42, u43, u44, u45, u46, u47, u48, u49, u50, u51, u52, u53, u54, rfl⟩
    rw [hw]
    clear hw
    have h2z : (s.extract p s.size).size = s.size - p := by simp
    have t2z : (t.extract p t.size).size = s.size - p := by have := HZ.out; simp; omega
    have hs0 : ∀ (h : 0 < (s.extract p s.size).size), 128 ≤ ((s.extract p s.size)[0]).toNat := fun h => by
      have : (s.extract p s.size)[0] = s[p] := by simp [ByteArray.getElem_extract]
      rw [this]; exact hb
    have ht0 : Asc (t.extract p t.size) := fun j h => by
      have : (t.extract p t.size)[j] = t[p + j]'(by simp at h; omega) := by simp [ByteArray.getElem_extract]
      rw [this]; exact HAT.out _ _

    go_wp2
    obtain ⟨s2, hs2⟩ : ∃ s2, s.extract p s.size = s2 := ⟨_, rfl⟩
    obtain ⟨t2, ht2⟩ : ∃ t2, t.extract p t.size = t2 := ⟨_, rfl⟩
    rw [hs2] at h2z hs0
    rw [ht2] at t2z ht0
    rw [hs2, ht2]
    go_loopw [1] (fun tv wr => Inv s2 w (s.size - p) tv wr) (fun _ wr => s.size - p - wr.iterPos w.heap.size)
    case atStart => exact ⟨0, 0, t2, World.iter_heap w s2 0, (Below.refl _ w).alloc (Nat.le_refl _) _, rfl, t2z, ht0, .inl ⟨rfl, rfl⟩, by omega⟩
    case round =>
      obtain ⟨pos, q, tr, hit, hbw, rfl, htq, hta, hpq, hpn⟩ := hrel
      have HTQ : Hid (tr.size + q = s.size - p) := htq
      have HTA : Hid (Asc tr) := hta
      clear htq hta
      by_cases hps : pos < s2.size
      · have hnx : ∀ ty, (Instr.next (.pointer (some ⟨w.heap.size, 0, none⟩)) true ty).run Tryd.prog wr = _ := fun ty => Lib.run_next_any_at wr w.heap.size s2 pos ty hit hps
        have hw1 := Lib.width_pos s2 pos
        have hr1 := Lib.rune_le s2 pos
        have hw2 := wd_le s2 pos hps
        have hw3 := wd_big s2 pos
        have hfst : pos = 0 → 128 ≤ (Utf8.decode s2 pos).1 := fun e => by subst e; exact (decode_high s2 0 hps (hs0 hps)).1
        obtain ⟨R, hR⟩ : ∃ R, (Utf8.decode s2 pos).1 = R := ⟨_, rfl⟩
        obtain ⟨K, hK⟩ : ∃ K, (Utf8.decode s2 pos).2 = K := ⟨_, rfl⟩
        rw [hR, hK] at hnx
        rw [hR] at hr1 hfst
        rw [hK] at hw1 hw2
        rw [hR, hK] at hw3
        have HW3 : Hid (128 ≤ R → R ≠ 65533 → 2 ≤ K) := hw3
        have HF : Hid (pos = 0 → 128 ≤ R) := hfst
        clear hR hK hw3 hfst
        have hit2 := Lib.iterAt_heap wr w.heap.size s2 pos (pos + K) hit
        have hbw2 := Lib.below_iterAt hbw (k := w.heap.size) (Nat.le_refl _) s2 (pos + K)
        have hlt : wr.iterPos w.heap.size = pos := by unfold World.iterPos; rw [hit]
        obtain ⟨W, hWd⟩ : ∃ W, wr.iterAt w.heap.size s2 (pos + K) = W := ⟨_, rfl⟩
        rw [hWd] at hnx hit2 hbw2
        clear hWd
        have hlt2 : W.iterPos w.heap.size = pos + K := by unfold World.iterPos; rw [hit2]
        have HLT : Hid (s.size - p - W.iterPos w.heap.size < s.size - p - wr.iterPos w.heap.size) := by
          show s.size - p - W.iterPos w.heap.size < s.size - p - wr.iterPos w.heap.size
          rw [hlt, hlt2]; omega
        have hTW := ht.later hbw2
        clear hlt hlt2 hit
        by_cases htr : tr.size = 0
        · have k0 : ((tr.size : Int) == 0) = true := by rw [htr]; rfl
          clear htr
          go_wp2_with fail
          simp only [Exit.jump]
          go_ret
          exact ⟨rfl, hbw2⟩
        · have k0 : ((tr.size : Int) == 0) = false := beq_eq_false_iff_ne.2 (by omega)
          have h0 : 0 < tr.size := by omega
          have hc128 := HTA.out 0 h0
          have hdec := Tryd.utf8_DecodeRuneInString_ascii tr tr[0] W (get_list tr 0 h0) hc128
          obtain ⟨c, hc⟩ : ∃ c, tr[0].toNat = c := ⟨_, rfl⟩
          rw [hc] at hdec hc128
          have HA2 : Hid (Asc (tr.extract 1 tr.size)) := asc_tail HTA.out
          have hz3 : (tr.extract 1 tr.size).size + (q + 1) = s.size - p := by have := HTQ.out; simp; omega
          have HZ3 : Hid ((tr.extract 1 tr.size).size + (q + 1) = s.size - p) := hz3
          clear hc htr hz3
          by_cases hRa : R < 128
          · have hq : q < pos := by
              rcases hpq with ⟨h, _⟩ | h
              · have := HF.out h; omega
              · exact h
            have CONT : Inv s2 w (s.size - p) (.string (tr.extract 1 tr.size)) W := ⟨pos + K, q + 1, _, hit2, hbw2, rfl, HZ3.out, HA2.out, .inr (by omega), by omega⟩
            go_wp2_with (go_at_call 21; refine hdec.mono ?_; rintro e w' ⟨rfl, rfl⟩)
            all_goals first
              | exact ⟨CONT, HLT.out⟩
              | (simp only [Exit.jump]; go_ret; exact ⟨rfl, hbw2⟩)
          · have hcR : c < R := by omega
            have k1 : ((c : Int) == (R : Int)) = false := beq_eq_false_iff_ne.2 (by omega)
            have hRa2 : (128 : Int) ≤ (R : Int) := by omega
            go_wp2_with (first | (go_at_call 21; refine hdec.mono ?_; rintro e w' ⟨rfl, hww⟩; rw [hww]; clear hww w') | (go_at_call 22; refine (sf_any c (.inl hc128) W hTW).mono ?_; rintro e w' ⟨rfl, hww⟩; rw [hww]; clear hww w'))
            go_loopg [13] 2 (fun g r wx => wx = W ∧ ∃ m : Nat, m + g = 3 ∧ 1 ≤ m ∧ r = .int .i32 (it m c) ∧ NotYet c m)
            case atStart => exact ⟨rfl, 1, by omega, by omega, rfl, fun j h1 h2 => absurd h2 (by omega)⟩
            case round =>
              obtain ⟨hwx, m, hmg, hm1, rfl, hny⟩ := hrel
              rw [hwx]
              clear hwx
              have HMG : Hid (m + gk = 3) := hmg
              have HNY : Hid (NotYet c m) := hny
              have hor := orb_it hc128 m
              have hol := orb_le hor
              obtain ⟨v, hv⟩ : ∃ v, it m c = v := ⟨_, rfl⟩
              have hcall := sf_any v (hv ▸ hor) W hTW
              have hnext : it (m + 1) c = sf v := by rw [← hv]; rfl
              have HNX : Hid (it (m + 1) c = sf v) := hnext
              have HV : Hid (it m c = v) := hv
              have HOR : Hid (Orb v) := hv ▸ hor
              have hol2 : v ≤ 8490 := hv ▸ hol
              rw [hv]
              clear hmg hny hor hol hnext hv
              by_cases hvc : v = c
              · have k2 : ((v : Int) != (c : Int)) = false := by rw [hvc]; simp
                have k3 : ((v : Int) == (R : Int)) = false := beq_eq_false_iff_ne.2 (by omega)
                clear hvc hcall
                go_wp2_with fail
                simp only [Exit.jump]
                go_ret
                exact ⟨rfl, hbw2⟩
              · have k2 : ((v : Int) != (c : Int)) = true := by rw [bne_iff_ne]; omega
                by_cases hvR : v < R
                · have k3 : (v : Int) < (R : Int) := by omega
                  have hm3 : m < 3 := by
                    by_cases h3 : m < 3
                    · exact h3
                    · have h := HMG.out
                      have e : m = 3 := by omega
                      have h1 := HNY.out
                      have h2 := HV.out
                      rw [e] at h1 h2
                      rw [it_three hc128 h1] at h2
                      omega
                  go_wp2_with (go_at_call 22; refine hcall.mono ?_; rintro e w' ⟨rfl, hww⟩; rw [hww]; clear hww w')
                  go_roundg (gk - 1)
                  case measure => have := HMG.out; omega
                  case rel =>
                    have h := HMG.out
                    refine ⟨rfl, m + 1, by omega, by omega, by rw [HNX.out], fun j h1 h2 => ?_⟩
                    by_cases hj : j = m
                    · rw [hj, HV.out]; exact hvc
                    · exact HNY.out j h1 (by omega)
                · have k3 : ¬ (v : Int) < (R : Int) := by omega
                  by_cases hvR2 : v = R
                  · have k4 : ((v : Int) == (R : Int)) = true := beq_iff_eq.2 (by omega)
                    have hq : pos + K ≤ s.size - p ∧ q + 1 < pos + K := by
                      have := HOR.out
                      unfold Orb at this
                      have := HW3.out (by omega) (by omega)
                      omega
                    have CONT : Inv s2 w (s.size - p) (.string (tr.extract 1 tr.size)) W := ⟨pos + K, q + 1, _, hit2, hbw2, rfl, HZ3.out, HA2.out, .inr hq.2, hq.1⟩
                    clear hcall hvR2
                    go_wp2_with fail
                    exact ⟨CONT, HLT.out⟩
                  · have k4 : ((v : Int) == (R : Int)) = false := beq_eq_false_iff_ne.2 (by omega)
                    clear hcall hvR2
                    go_wp2_with fail
                    simp only [Exit.jump]
                    go_ret
                    exact ⟨rfl, hbw2⟩
      · have hnx : ∀ ty, (Instr.next (.pointer (some ⟨w.heap.size, 0, none⟩)) true ty).run Tryd.prog wr = _ := fun ty => Lib.run_next_end_at wr w.heap.size s2 pos ty hit hps
        have k0 : ((tr.size : Int) == 0) = false := beq_eq_false_iff_ne.2 (by have := HTQ.out; omega)
        go_wp2
        simp only [Exit.jump]
        go_ret
        exact ⟨rfl, hbw⟩
end Go.Proofs.Qxb6604104aDoor
