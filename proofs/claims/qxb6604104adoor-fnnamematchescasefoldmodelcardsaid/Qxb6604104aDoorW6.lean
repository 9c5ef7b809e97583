import Derived.Test.Qxb6604104aDoorW5
import Derived.Deep.WholeRow
import Derived.Laws.CopyOwn
import Derived.StillTailTactics
import Derived.Lib.ConvBytes
namespace Go.Proofs.Qxb6604104aDoor
open Go.RowKit
set_option linter.unusedSimpArgs false
set_option linter.unusedVariables false

theorem info35 : (Tryd.prog.info? 35).map (fun i => (i.zero, i.size)) = some (some (.agg (Array.replicate 256 (.int .u8 0))), 256) := by kernel_rfl
theorem size5 : (Tryd.prog.info? 5).map (·.size) = some 1 := by kernel_rfl
theorem zero35 : ∃ Z : Array Value, Z.size = 256 ∧ (∀ v ∈ Z.toList, v.oneCell' = true) ∧ ∀ w, (zeroValue 35).run Tryd.prog w = .ok (.agg Z) w :=
  ⟨Array.replicate 256 (.int .u8 0), Array.size_replicate, by intro v hv; rw [Array.toList_replicate] at hv; rw [List.eq_of_mem_replicate hv]; rfl, (zero_of_info info35).1⟩
/-- The result's block and the table, while newMasker is at work. -/
def Sk (H : Nat) (w wr : World) : Prop := wr.heap[H]? = some (.cells #[.string ⟨#[]⟩, .slice none 0 0, .int .u8 0, .pointer none] 29 (0, 0)) ∧ Below H w wr ∧
  ∃ cur : List Value, cur.length = 256 ∧ (∀ v ∈ cur, v.oneCell' = true) ∧ wr.heap[H + 1]? = some (.cells cur.toArray 35 (0, 0))
theorem Sk.set {H : Nat} {w wr : World} (h : Sk H w wr) {i : Nat} (hi : i < 256) {v : Value} (hv : v.oneCell' = true) : Sk H w (wr.setCell ⟨H + 1, i, none⟩ v) := by
  obtain ⟨h0, hb, cur, hl, h1, hc⟩ := h
  refine ⟨by rw [Below.heap_setCell _ _ _ _ (by simp)]; exact h0, hb.setCell (Nat.le_succ _) _, cur.set i v, by simpa using hl, ?_, ?_⟩
  · intro u hu
    rcases List.mem_or_eq_of_mem_set hu with h | h
    · exact h1 u h
    · exact h ▸ hv
  · rw [setCell_eq_setRow _ _ _ _ _ _ _ hc, setRow_heap _ _ _ _ _ _ hc]
    simp
theorem Sk.drew {H : Nat} {w wr : World} (h : Sk H w wr) : Sk H w wr.drew := ⟨h.1, h.2.1.drew, h.2.2⟩
theorem Sk.cell {H : Nat} {w wr : World} (h : Sk H w wr) {i : Nat} (hi : i < 256) : ∃ v, wr.cell? ⟨H + 1, i, none⟩ = some v ∧ wr.frozen? ⟨H + 1, i, none⟩ = false := by
  obtain ⟨h0, hb, cur, hl, h1, hc⟩ := h
  refine ⟨cur[i], ?_, ?_⟩
  · rw [cell_of_row _ _ _ _ _ _ hc]
    simp [hl, hi]
  · simp [World.frozen?, hc]
theorem toList_nil {s : ByteArray} : s.toList.isEmpty = true ↔ s.size = 0 := by
  rw [ByteArray.toList_eq, List.isEmpty_iff_length_eq_zero, Array.length_toList]
  rfl
theorem toList_not {s : ByteArray} (h : ¬ s.size = 0) : s.toList.isEmpty = false := by
  cases e : s.toList.isEmpty with
  | false => rfl
  | true => exact absurd (toList_nil.1 e) h
/-- The fill of key's masker. -/
def fk (key : ByteArray) : Nat := if key.size = 0 then 0 else fl key
theorem fk_lt (key : ByteArray) : fk key < 256 := by
  unfold fk
  split
  · omega
  · exact flA_lt _ _
/-- What newMasker hands back. -/
def MK (key : ByteArray) (w : World) (e : Ending) (w' : World) : Prop := ∃ (ka : Option Addr) (kn kc : Nat) (po : Option Addr), e = .returned (.agg #[.string key, .slice ka kn kc, .int .u8 (fk key), .pointer po]) ∧
  (po = none ∨ ∃ S : Nat, po = some ⟨S, 0, none⟩ ∧ ∃ cur : List Value, cur.length = 256 ∧ (∀ v ∈ cur, v.oneCell' = true) ∧ w'.heap[S]? = some (.cells cur.toArray 35 (0, 0))) ∧ Below w.heap.size w w'
theorem below_bytes (wr : World) (e : TypeId) (s : ByteArray) {n : Nat} (h : n < wr.heap.size) : Below (n + 1) wr (Lib.bytesWorld wr e s) :=
  ⟨rfl, rfl, rfl, by rw [Lib.bytesWorld_size]; omega, fun k hk => Lib.bytesWorld_at_old wr e s k (by omega)⟩
theorem Sk.far {H : Nat} {w wr wr' : World} (h : Sk H w wr) (hb : Below (H + 2) wr wr') : Sk H w wr' := by
  obtain ⟨h0, hbl, cur, hl, h1, hc⟩ := h
  exact ⟨by rw [hb.block _ (by omega)]; exact h0, hbl.trans (hb.mono (by omega)), cur, hl, h1, by rw [hb.block _ (by omega)]; exact hc⟩
set_option maxRecDepth 100000 in
set_option maxHeartbeats 1000000 in
theorem newMasker_any (key : ByteArray) (w : World) (hs : key.size ≤ 4096) :
    Calls Tryd.prog 12 #[.string key] w (MK key w) := by
  obtain ⟨Z, hz1, hz2, hz3⟩ := zero35
  by_cases hk : key.size = 0
  · have k0 : key.toList.isEmpty = true := toList_nil.2 hk
    have hke : key = ⟨#[]⟩ := by
      cases key with
      | mk d => congr; exact Array.eq_empty_of_size_eq_zero hk
    have HKE : Hid (key = ⟨#[]⟩) := hke
    have HFK : Hid (fk key = 0) := by show fk key = 0; unfold fk; rw [if_pos hk]
    clear hke
    go_enter Tryd.func12, Tryd.ntmps12
    go_wp2
    refine bodyPost_ret (v := .agg #[.string ⟨#[]⟩, .slice none 0 0, .int .u8 0, .pointer none]) (by simp [results, Tryd.results12, go_sem]) rfl ⟨none, 0, 0, none, ?_, .inl rfl, ?_⟩
    · rw [HKE.out] at HFK
      rw [HKE.out, HFK.out]; rfl
    · exact (Below.refl _ w).alloc (Nat.le_refl _) _
  · have k0 : key.toList.isEmpty = false := toList_not hk
    have HFK : Hid (fk key = fl key) := by show fk key = fl key; unfold fk; rw [if_neg hk]
    have hz4 : 0 < Z.size := by omega
    have hkp : 1 ≤ (key.size : Int) := by omega
    go_enter Tryd.func12, Tryd.ntmps12
    go_wp2
    have hS : Sk w.heap.size w ((w.alloc (.cells #[.string ⟨#[]⟩, .slice none 0 0, .int .u8 0, .pointer none] 29)).alloc (.cells (Z.setIfInBounds 0 (.int .u8 (min (↑key.size) 255))) 35)) := by
      refine ⟨?_, ((Below.refl _ w).alloc (Nat.le_refl _) _).alloc (by simp) _, (Z.setIfInBounds 0 (.int .u8 (min (↑key.size) 255))).toList, by simpa using hz1, ?_, ?_⟩
      · exact heap_alloc2_old _ _ _
      · intro u hu
        rw [Array.toList_setIfInBounds] at hu
        rcases List.mem_or_eq_of_mem_set hu with h | h
        · exact hz2 u h
        · rw [h]; rfl
      · rw [Array.toArray_toList]; exact heap_alloc2_new _ _ _
    obtain ⟨W, hW⟩ : ∃ W, (w.alloc (.cells #[.string ⟨#[]⟩, .slice none 0 0, .int .u8 0, .pointer none] 29)).alloc (.cells (Z.setIfInBounds 0 (.int .u8 (min (↑key.size) 255))) 35) = W := ⟨_, rfl⟩
    rw [hW] at hS ⊢
    clear hW hz3 hz2 hz1 hz4
    go_loopw [4] (fun x wr => ∃ n : Nat, x = .int .i64 n ∧ (n = 1 ∨ n = 2 ∨ n = 4 ∨ n = 8 ∨ n = 16 ∨ n = 32 ∨ n = 64 ∨ n = 128 ∨ n = 256) ∧ Sk w.heap.size w wr) (fun x _ => 256 - (intOf x).toNat)
    case atStart => exact ⟨1, rfl, .inl rfl, hS⟩
    case round =>
      obtain ⟨n, rfl, hn, hS1⟩ := hrel
      have HN : Hid (n = 1 ∨ n = 2 ∨ n = 4 ∨ n = 8 ∨ n = 16 ∨ n = 32 ∨ n = 64 ∨ n = 128 ∨ n = 256) := hn
      by_cases h1 : n < 256
      · have h2 : (n : Int) < 256 := by omega
        have h3 : 1 ≤ n ∧ n ≤ 128 := by omega
        have h4 : (n : Int) ≤ 256 := by omega
        have h5 : (0 : Int) ≤ (n : Int) := by omega
        obtain ⟨g0, hb0, cur, hl, h1c, hc⟩ := hS1
        clear hn
        have HC : Hid (wr.heap[w.heap.size + 1]? = some (.cells cur.toArray 35 (0, 0))) := hc
        have HG : Hid (wr.heap[w.heap.size]? = some (.cells #[.string ⟨#[]⟩, .slice none 0 0, .int .u8 0, .pointer none] 29 (0, 0))) := g0
        have HL : Hid (cur.length = 256) := hl
        clear hc g0 hl
        go_wp2_with fail
        go_still_tail 8, (by kernel_rfl)
        refine wpList_copy_splice rfl (.tmp 24) (.tmp 28) 26 26 rfl 5 Tryd.underlying26 size5 _ _ _ _ _ _ rfl rfl (w.heap.size + 1) n cur 35 HC.out (cur.take n) ?_ ?_ ?_ ?_ (w.heap.size + 1) wr (Below.refl _ wr).drew (Nat.le_refl _) ?_
        · have := HL.out
          have e : n.min (256 - n) = n := Nat.min_eq_left (by omega)
          rw [List.length_take, e]
          omega
        · intro _
          refine ⟨?_, ⟨w.heap.size + 1, 0, none⟩, ?_, ?_⟩
          · rw [if_neg (by omega)]
          · rfl
          · intro j v hv
            have hadd : (⟨w.heap.size + 1, 0, none⟩ : Addr).add j = ⟨w.heap.size + 1, j, none⟩ := by unfold Addr.add; split <;> simp_all
            rw [hadd]
            show wr.cell? _ = _
            rw [cell_of_row _ _ _ _ _ _ HC.out]
            rw [List.getElem?_take] at hv
            split at hv
            · simpa using hv
            · simp at hv
        · have := HL.out
          simp
          omega
        · intro v hv
          exact h1c v (List.mem_of_mem_take hv)
        · intro w4 hg4 hb4
          have hS4 : Sk w.heap.size w w4 := by
            refine ⟨by rw [hb4.block _ (Nat.lt_succ_self _)]; exact HG.out, hb0.trans (hb4.mono (Nat.le_succ _)), _, ?_, ?_, hg4.out⟩
            · rw [length_splice _ _ _ (by have := HL.out; simp; omega)]; exact HL.out
            · intro v hv
              unfold splice at hv
              simp only [List.mem_append] at hv
              rcases hv with h | h | h
              · exact h1c v (List.mem_of_mem_take h)
              · exact h1c v (List.mem_of_mem_take h)
              · exact h1c v (List.mem_of_mem_drop h)
          clear hg4
          go_wp2_with fail
          refine ⟨⟨2 * n, by go_num, ?_, hS4⟩, ?_⟩
          · have := HN.out
            omega
          · simp [intOf]; omega
      · have h2 : ¬ (n : Int) < 256 := by omega
        clear hn
        go_wp2
        go_loopw [33] (fun x wr => ∃ i : Nat, x = .int .i64 i ∧ i ≤ key.size - 1 ∧ Sk w.heap.size w wr) (fun x _ => key.size - (intOf x).toNat)
        case atStart => exact ⟨0, rfl, Nat.zero_le _, hS1⟩
        case round =>
          rename_i wr0
          obtain ⟨i, rfl, hi, hS2⟩ := hrel
          by_cases h3 : i < key.size - 1
          · have h4 : (i : Int) < (key.size : Int) - 1 := by omega
            have h5 : i < key.size := by omega
            have h6 : (i : Int) < (key.size : Int) := by omega
            obtain ⟨y, hy⟩ : ∃ y, key[i].toNat = y := ⟨_, rfl⟩
            have hy2 : y < 256 := hy ▸ UInt8.toNat_lt _
            have hy3 : (y : Int) < 256 := by omega
            obtain ⟨cv, hcv, hcf⟩ := hS2.cell hy2
            have i1 : IntKind.i64.wrap ((key.size : Int) - 1) = (key.size : Int) - 1 := IntWalk.i64_in _ (by omega)
            have i2 : IntKind.i64.wrap ((key.size : Int) - 1 - (i : Int)) = (key.size : Int) - 1 - (i : Int) := IntWalk.i64_in _ (by omega)
            have i3 : IntKind.u8.wrap (min ((key.size : Int) - 1 - (i : Int)) 255) = min ((key.size : Int) - 1 - (i : Int)) 255 := IntWalk.u8_in _ (by omega)
            go_wp2_with fail
            go_still_tail 13, (by kernel_rfl)
            go_wp2_with fail
            refine ⟨⟨i + 1, by go_num, by omega, ?_⟩, by simp [intOf]; omega⟩
            exact hS2.drew.set hy2 rfl
          · have h4 : ¬ (i : Int) < (key.size : Int) - 1 := by omega
            have hconv := Lib.run_convert_string_bytes (P := Tryd.prog) wr 9 26 5 key Tryd.underlying9 Tryd.underlying26 Tryd.underlying5
            have hb5 : Below (w.heap.size + 2) wr (Lib.bytesWorld wr 5 key) := below_bytes _ _ _ (by have := hS2.2.2; obtain ⟨cur, _, _, hc⟩ := this; exact (Array.getElem?_eq_some_iff.1 hc).1)
            obtain ⟨Wb, hWb⟩ : ∃ Wb, Lib.bytesWorld wr 5 key = Wb := ⟨_, rfl⟩
            rw [hWb] at hconv hb5
            have hS5 : Sk w.heap.size w Wb := hS2.far hb5
            obtain ⟨C, hC⟩ : ∃ C, grownCap wr key.size 0 5 = C := ⟨_, rfl⟩
            rw [hC] at hconv
            clear hC hWb
            have hf := fill_any key Wb
            have g0 := hS5.1
            have HS5 : Hid (Sk w.heap.size w Wb) := hS5
            have c0 : Wb.cell? ⟨w.heap.size, 0, none⟩ = some (.string ⟨#[]⟩) := cell_of_row _ _ _ _ _ _ g0
            have c1 : Wb.cell? ⟨w.heap.size, 1, none⟩ = some (.slice none 0 0) := cell_of_row _ _ _ _ _ _ g0
            have c2 : Wb.cell? ⟨w.heap.size, 2, none⟩ = some (.int .u8 0) := cell_of_row _ _ _ _ _ _ g0
            have c3 : Wb.cell? ⟨w.heap.size, 3, none⟩ = some (.pointer none) := cell_of_row _ _ _ _ _ _ g0
            have f0 : ∀ j, Wb.frozen? ⟨w.heap.size, j, none⟩ = false := fun j => by simp [World.frozen?, g0]
            rw [← HFK.out] at hf
            obtain ⟨F, hF⟩ : ∃ F, fk key = F := ⟨_, rfl⟩
            rw [hF] at hf
            have HF : Hid (fk key = F) := hF
            clear hF g0 hS5
            go_wp2_with (go_at_call 16; refine hf.mono ?_; rintro e w' ⟨rfl, hww⟩; rw [hww]; clear hww w')
            refine bodyPost_ret (v := .agg #[.string key, .slice (some ⟨wr.heap.size, 0, none⟩) key.size C, .int .u8 F, .pointer (some ⟨w.heap.size + 1, 0, none⟩)]) (by simp [results, Tryd.results12, go_sem, c0, c1, c2, c3]) rfl ⟨_, _, _, _, by rw [HF.out], ?_, ?_⟩
            · obtain ⟨_, hb, cur, hl, h1, hc⟩ := HS5.out
              refine .inr ⟨w.heap.size + 1, rfl, cur, hl, h1, ?_⟩
              rw [Below.heap_setCell _ _ _ _ (by simp), Below.heap_setCell _ _ _ _ (by simp), Below.heap_setCell _ _ _ _ (by simp), Below.heap_setCell _ _ _ _ (by simp)]
              exact hc
            · exact (((HS5.out.2.1.setCell (Nat.le_refl _) _).setCell (Nat.le_refl _) _).setCell (Nat.le_refl _) _).setCell (Nat.le_refl _) _
end Go.Proofs.Qxb6604104aDoor
