import Derived.Test.Qxb6604104aDoorW6
namespace Go.Proofs.Qxb6604104aDoor
open Go.RowKit
set_option linter.unusedSimpArgs false
set_option linter.unusedVariables false

theorem run_load_from {w : World} {S : Nat} {cur : List Value} {t : TypeId} {fr : Nat × Nat} (hl : cur.length = 256) (h : w.heap[S]? = some (.cells cur.toArray t fr)) : (loadCellsFrom ⟨S, 0, none⟩ 0 256 #[]).run Tryd.prog w = .ok cur.toArray w := by
  have := run_loadCells_list (P := Tryd.prog) w ⟨S, 0, none⟩ cur (fun j v hv => by
    have hadd : (⟨S, 0, none⟩ : Addr).add j = ⟨S, j, none⟩ := by unfold Addr.add; split <;> simp_all
    rw [hadd, cell_of_row _ _ j _ t fr h]
    simpa using hv)
  rw [hl] at this
  simpa [loadCells] using this
theorem size35 : (Tryd.prog.info? 35).map (·.size) = some 256 := (zero_of_info info35).2
theorem wpStill_load_row {P : Program} {ops : Array Oper} {w : World} {Q : Act → Prop} {a : Act} {o : Oper} {rest : List Oper} (hgd : o.guard = none) (ty : TypeId) (x : Operand) (ho : o.op = .load ty x)
    (g : Nat) (hx : a.eval x = .pointer (some ⟨g, 0, none⟩)) (t : TypeId) (cs : Array Value) (fr : Nat × Nat) (d : TypeDesc) (hg : w.heap[g]? = some (.cells cs t fr))
    (hu : P.underlying ty = some d) (hd : (match d with | .struct _ | .array _ _ => true | _ => false) = true) (hi : (P.info? ty).map (·.size) = some cs.size)
    (h : wpStill P ops w Q rest (a.put o.dst (.agg cs))) : wpStill P ops w Q (o :: rest) a := by
  refine wpStill_step fun K hK => ?_
  have hw : Region.wanted o (yielded ops a.tmps) = true := by simp [Region.wanted, hgd]
  rw [if_pos hw]
  unfold Oper.still execOp
  simp only [ho, hx, Instr.loadAt, Instr.sureAddr, Sem.run_bind, Sem.run_pure, Result.andThen_ok, run_loadVar_row w g t ty cs fr d hg hu hd hi]
  exact ⟨rfl, hK _ h⟩
theorem wpList_store_row {P : Program} {ops : Array Oper} {rest : List Oper} {o : Oper} {a : Act} {w : World} {Q : Exit → Act → World → Prop} (hgd : o.guard = none) (ty : TypeId) (x y : Operand) (ho : o.op = .store ty x y)
    (g : Nat) (cells : Array Value) (hx : a.eval x = .pointer (some ⟨g, 0, none⟩)) (hy : a.eval y = .agg cells)
    (t : TypeId) (old : Array Value) (hg : w.heap[g]? = some (.cells old t (0, 0))) (hi : (P.info? ty).map (·.size) = some cells.size)
    (hold : old.size = cells.size) (h1 : cells.all (·.oneCell') = true)
    (h : wpList P ops Q rest (a.put o.dst undef) (w.setRow g cells)) : wpList P ops Q (o :: rest) a w :=
  wpList_plain hgd fun _ hK => wp_store_row ty x y ho g cells hx hy t old hg hi hold h1 (hK _ _ h)
theorem run_store_at {w : World} {S : Nat} {cur cur' : List Value} {t : TypeId} (hl : cur.length = 256) (hl' : cur'.length = 256) (h1 : ∀ v ∈ cur', v.oneCell' = true) (h : w.heap[S]? = some (.cells cur.toArray t (0, 0))) :
    (storeCells ⟨S, 0, none⟩ cur' 0).run Tryd.prog w = .ok () (w.setRow S cur'.toArray) := by
  have := run_storeCells_from (P := Tryd.prog) S t cur' 0 cur.toArray w h (by simp; omega) h1
  simpa using this
set_option maxRecDepth 100000 in
set_option maxHeartbeats 1000000 in
theorem parts_any (key : ByteArray) (w : World) (hs : key.size ≤ 4096) :
    Calls Tryd.prog 19 #[.string key] w fun e w' => ∃ (ka : Option Addr) (kn kc : Nat) (arr : List Value) (b : Bool), e = .returned (.tuple #[.string key, .slice ka kn kc, .int .u8 (fk key), .agg arr.toArray, .bool b]) ∧ arr.length = 256 ∧ (∀ v ∈ arr, v.oneCell' = true) ∧ Below w.heap.size w w' := by
  obtain ⟨Z, hz1, hz2, hz3⟩ := zero35
  obtain ⟨F, hF⟩ : ∃ F, fk key = F := ⟨_, rfl⟩
  have HF : Hid (fk key = F) := hF
  rw [hF]
  clear hF
  go_enter Tryd.func19, Tryd.ntmps19
  go_wp2_with fail
  refine (newMasker_any key _ hs).mono ?_
  rintro e w' ⟨ka, kn, kc, po, rfl, hpo, hbw⟩
  rw [HF.out]
  go_wp2_with fail
  · have hZ : w'.heap[w.heap.size]? = some (.cells Z 35 (0, 0)) := by rw [hbw.block _ (by simp)]; exact heap_alloc_new _ _
    have hZ2 : (w'.alloc (.cells #[.string key, .slice ka kn kc, .int .u8 F, .pointer po] 29)).heap[w.heap.size]? = some (.cells Z.toList.toArray 35 (0, 0)) := by
      rw [heap_alloc_old w' _ (by have := hbw.size; simp at this; omega)]; exact hZ
    have hb2 : Below w.heap.size w (w'.alloc (.cells #[.string key, .slice ka kn kc, .int .u8 F, .pointer po] 29)) := (((Below.refl _ w).alloc (Nat.le_refl _) _).trans (hbw.mono (by simp))).alloc (by have := hbw.size; simp at this; omega) _
    have c0 : (w'.alloc (.cells #[.string key, .slice ka kn kc, .int .u8 F, .pointer po] 29)).cell? ⟨w'.heap.size, 0, none⟩ = some (.string key) := by simp
    have c1 : (w'.alloc (.cells #[.string key, .slice ka kn kc, .int .u8 F, .pointer po] 29)).cell? ⟨w'.heap.size, 1, none⟩ = some (.slice ka kn kc) := by simp
    have c2 : (w'.alloc (.cells #[.string key, .slice ka kn kc, .int .u8 F, .pointer po] 29)).cell? ⟨w'.heap.size, 2, none⟩ = some (.int .u8 F) := by simp
    obtain ⟨W, hW⟩ : ∃ W, w'.alloc (.cells #[.string key, .slice ka kn kc, .int .u8 F, .pointer po] 29) = W := ⟨_, rfl⟩
    rw [hW] at hZ2 hb2 c0 c1 c2 ⊢
    clear hW hZ hpo hbw
    obtain ⟨A, hA⟩ : ∃ A, w'.heap.size = A := ⟨_, rfl⟩
    rw [hA] at c0 c1 c2 ⊢
    clear hA
    refine wp_region_still_tail 10 (by kernel_rfl) (by kernel_rfl) ?_
    have hZ3 : ({ W with drawn := W.drawn + 1 } : World).heap[w.heap.size]? = some (.cells Z.toList.toArray 35 (0, 0)) := hZ2
    have hb3 : Below w.heap.size w { W with drawn := W.drawn + 1 } := hb2.drew
    have d0 : ({ W with drawn := W.drawn + 1 } : World).cell? ⟨A, 0, none⟩ = some (.string key) := c0
    have d1 : ({ W with drawn := W.drawn + 1 } : World).cell? ⟨A, 1, none⟩ = some (.slice ka kn kc) := c1
    have d2 : ({ W with drawn := W.drawn + 1 } : World).cell? ⟨A, 2, none⟩ = some (.int .u8 F) := c2
    obtain ⟨W1, hW1⟩ : ∃ W1, ({ W with drawn := W.drawn + 1 } : World) = W1 := ⟨_, rfl⟩
    rw [hW1] at hZ3 hb3 d0 d1 d2 ⊢
    clear hW1 hZ2 hb2 c0 c1 c2
    simp only [List.take_succ_cons, List.take_zero, List.drop_succ_cons, List.drop_zero]
    have HZ3 : Hid (W1.heap[w.heap.size]? = some (.cells Z.toList.toArray 35 (0, 0))) := hZ3
    have HB3 : Hid (Below w.heap.size w W1) := hb3
    have HL1 : Hid (Z.toList.length = 256) := by show Z.toList.length = 256; simpa using hz1
    have HL2 : Hid (∀ v ∈ Z.toList, v.oneCell' = true) := hz2
    obtain ⟨ZZ, hZZ⟩ : ∃ ZZ, Z.toList = ZZ := ⟨_, rfl⟩
    rw [hZZ] at HZ3 HL1 HL2
    clear hZ3 hb3 hz3 hz1 hz2 hZZ
    iterate 6 still_step
    refine wpStill_load_row rfl 35 (.tmp 5) rfl w.heap.size rfl 35 ZZ.toArray (0, 0) _ HZ3.out Tryd.underlying35 rfl (by rw [size35]; simp [HL1.out]) ?_
    iterate 3 still_step
    refine wpStill_nil ?_
    refine wpList_store_row rfl 35 (.tmp 5) (.tmp 19) rfl w.heap.size ZZ.toArray rfl rfl 35 ZZ.toArray HZ3.out (by rw [size35]; simp [HL1.out]) rfl (by rw [Array.all_eq_true_iff_forall_mem]; intro v hv; exact HL2.out v (by simpa using hv)) ?_
    go_wp2_with fail
    have hlv := run_loadVar_row (P := Tryd.prog) (W1.setRow w.heap.size ZZ.toArray) w.heap.size 35 35 ZZ.toArray (0, 0) _ (setRow_heap _ _ _ _ _ _ HZ3.out) Tryd.underlying35 rfl (by rw [size35]; simp [HL1.out])
    refine bodyPost_ret (v := .tuple #[.string key, .slice ka kn kc, .int .u8 F, .agg ZZ.toArray, .bool true]) (by simp [results, Tryd.results19, asAddr, hlv]) rfl ⟨_, _, _, _, _, rfl, HL1.out, HL2.out, below_setRow HB3.out (Nat.le_refl _) _⟩
  · have hno : po.isNone = false := by assumption
    have hZ : w'.heap[w.heap.size]? = some (.cells Z 35 (0, 0)) := by rw [hbw.block _ (by simp)]; exact heap_alloc_new _ _
    have hZ2 : (w'.alloc (.cells #[.string key, .slice ka kn kc, .int .u8 F, .pointer po] 29)).heap[w.heap.size]? = some (.cells Z.toList.toArray 35 (0, 0)) := by
      rw [heap_alloc_old w' _ (by have := hbw.size; simp at this; omega)]; exact hZ
    have hb2 : Below w.heap.size w (w'.alloc (.cells #[.string key, .slice ka kn kc, .int .u8 F, .pointer po] 29)) := (((Below.refl _ w).alloc (Nat.le_refl _) _).trans (hbw.mono (by simp))).alloc (by have := hbw.size; simp at this; omega) _
    obtain ⟨S, rfl, cur, hl1, hl2, hcS⟩ : ∃ S : Nat, po = some ⟨S, 0, none⟩ ∧ ∃ cur : List Value, cur.length = 256 ∧ (∀ v ∈ cur, v.oneCell' = true) ∧ w'.heap[S]? = some (.cells cur.toArray 35 (0, 0)) := by
      rcases hpo with h | h
      · subst h; simp at hno
      · exact h
    have hcS2 : (w'.alloc (.cells #[.string key, .slice ka kn kc, .int .u8 F, .pointer (some ⟨S, 0, none⟩)] 29)).heap[S]? = some (.cells cur.toArray 35 (0, 0)) := by
      rw [heap_alloc_old w' _ (Array.getElem?_eq_some_iff.1 hcS).1]; exact hcS
    have c3 : (w'.alloc (.cells #[.string key, .slice ka kn kc, .int .u8 F, .pointer (some ⟨S, 0, none⟩)] 29)).cell? ⟨w'.heap.size, 3, none⟩ = some (.pointer (some ⟨S, 0, none⟩)) := by simp
    have c0 : (w'.alloc (.cells #[.string key, .slice ka kn kc, .int .u8 F, .pointer (some ⟨S, 0, none⟩)] 29)).cell? ⟨w'.heap.size, 0, none⟩ = some (.string key) := by simp
    have c1 : (w'.alloc (.cells #[.string key, .slice ka kn kc, .int .u8 F, .pointer (some ⟨S, 0, none⟩)] 29)).cell? ⟨w'.heap.size, 1, none⟩ = some (.slice ka kn kc) := by simp
    have c2 : (w'.alloc (.cells #[.string key, .slice ka kn kc, .int .u8 F, .pointer (some ⟨S, 0, none⟩)] 29)).cell? ⟨w'.heap.size, 2, none⟩ = some (.int .u8 F) := by simp
    obtain ⟨W, hW⟩ : ∃ W, w'.alloc (.cells #[.string key, .slice ka kn kc, .int .u8 F, .pointer (some ⟨S, 0, none⟩)] 29) = W := ⟨_, rfl⟩
    rw [hW] at hZ2 hb2 c0 c1 c2 c3 hcS2 ⊢
    clear hW hZ hpo hbw hcS hno
    obtain ⟨A, hA⟩ : ∃ A, w'.heap.size = A := ⟨_, rfl⟩
    rw [hA] at c0 c1 c2 c3 ⊢
    clear hA
    refine wp_region_still_tail 13 (by kernel_rfl) (by kernel_rfl) ?_
    have hZ3 : ({ W with drawn := W.drawn + 1 } : World).heap[w.heap.size]? = some (.cells Z.toList.toArray 35 (0, 0)) := hZ2
    have hb3 : Below w.heap.size w { W with drawn := W.drawn + 1 } := hb2.drew
    have d0 : ({ W with drawn := W.drawn + 1 } : World).cell? ⟨A, 0, none⟩ = some (.string key) := c0
    have d1 : ({ W with drawn := W.drawn + 1 } : World).cell? ⟨A, 1, none⟩ = some (.slice ka kn kc) := c1
    have d2 : ({ W with drawn := W.drawn + 1 } : World).cell? ⟨A, 2, none⟩ = some (.int .u8 F) := c2
    have d3 : ({ W with drawn := W.drawn + 1 } : World).cell? ⟨A, 3, none⟩ = some (.pointer (some ⟨S, 0, none⟩)) := c3
    have dS : ({ W with drawn := W.drawn + 1 } : World).heap[S]? = some (.cells cur.toArray 35 (0, 0)) := hcS2
    obtain ⟨W1, hW1⟩ : ∃ W1, ({ W with drawn := W.drawn + 1 } : World) = W1 := ⟨_, rfl⟩
    rw [hW1] at hZ3 hb3 d0 d1 d2 d3 dS ⊢
    clear hW1 hZ2 hb2 c0 c1 c2 c3 hcS2
    simp only [List.take_succ_cons, List.take_zero, List.drop_succ_cons, List.drop_zero]
    have HZ3 : Hid (W1.heap[w.heap.size]? = some (.cells Z.toList.toArray 35 (0, 0))) := hZ3
    have HZZ : Hid (W1.heap[S]? = some (.cells cur.toArray 35 (0, 0))) := dS
    have HB3 : Hid (Below w.heap.size w W1) := hb3
    have HL1 : Hid (cur.length = 256) := hl1
    have HL2 : Hid (∀ v ∈ cur, v.oneCell' = true) := hl2
    have HZ1 : Hid (Z.size = 256) := hz1
    clear hZ3 hb3 hz3 hz1 hz2 dS hl1 hl2
    iterate 9 still_step
    refine wpStill_load_row rfl 35 (.tmp 28) rfl S rfl 35 cur.toArray (0, 0) _ HZZ.out Tryd.underlying35 rfl (by rw [size35]; simp [HL1.out]) ?_
    iterate 3 still_step
    refine wpStill_nil ?_
    refine wpList_store_row rfl 35 (.tmp 5) (.tmp 29) rfl w.heap.size cur.toArray rfl rfl 35 Z.toList.toArray HZ3.out (by rw [size35]; simp [HL1.out]) (by simp [HL1.out, HZ1.out]) (by rw [Array.all_eq_true_iff_forall_mem]; intro v hv; exact HL2.out v (by simpa using hv)) ?_
    go_wp2_with fail
    have hlv := run_loadVar_row (P := Tryd.prog) (W1.setRow w.heap.size cur.toArray) w.heap.size 35 35 cur.toArray (0, 0) _ (setRow_heap _ _ _ _ _ _ HZ3.out) Tryd.underlying35 rfl (by rw [size35]; simp [HL1.out])
    refine bodyPost_ret (v := .tuple #[.string key, .slice ka kn kc, .int .u8 F, .agg cur.toArray, .bool false]) (by simp [results, Tryd.results19, asAddr, hlv]) rfl ⟨_, _, _, _, _, rfl, HL1.out, HL2.out, below_setRow HB3.out (Nat.le_refl _) _⟩
set_option maxRecDepth 100000 in
set_option maxHeartbeats 1000000 in
theorem fwbFill_any (key : ByteArray) (w : World) (hs : key.size ≤ 4096) :
    Calls Tryd.prog 14 #[.string key] w fun e w' => e = .returned (.int .u8 (fk key)) ∧ Below w.heap.size w w' := by
  obtain ⟨Z, hz1, hz2, hz3⟩ := zero35
  obtain ⟨F, hF⟩ : ∃ F, fk key = F := ⟨_, rfl⟩
  have HF : Hid (fk key = F) := hF
  rw [hF]
  clear hF
  go_enter Tryd.func14, Tryd.ntmps14
  go_wp2_with fail
  refine (parts_any key w hs).mono ?_
  rintro e w' ⟨ka, kn, kc, arr, b, rfl, hl1, hl2, hbw⟩
  rw [HF.out]
  have HL1 : Hid (arr.length = 256) := hl1
  have HL2 : Hid (∀ v ∈ arr, v.oneCell' = true) := hl2
  have HZ1 : Hid (Z.size = 256) := hz1
  have HBW : Hid (Below w.heap.size w w') := hbw
  clear hl1 hl2 hz1 hz2 hbw
  go_wp2_with (refine wpList_store_row rfl 35 (.tmp 6) (.tmp 14) rfl w'.heap.size arr.toArray rfl rfl 35 Z (heap_alloc_last _ _) (by rw [size35]; simp [HL1.out]) (by simp [HL1.out, HZ1.out]) (by rw [Array.all_eq_true_iff_forall_mem]; intro v hv; exact HL2.out v (by simpa using hv)) ?_)
  go_ret
  exact ⟨rfl, below_setRow (HBW.out.alloc HBW.out.size _) HBW.out.size _⟩
end Go.Proofs.Qxb6604104aDoor
