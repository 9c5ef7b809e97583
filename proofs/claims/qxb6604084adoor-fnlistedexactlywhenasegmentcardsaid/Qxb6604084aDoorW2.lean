import Derived.Test.Qxb6604084aDoorW1
namespace Go.Proofs.Qxb6604084aDoor
open Go.RowKit Go.Shelf
attribute [local go_sem] Oper.semAt_some
set_option linter.unusedSimpArgs false
set_option linter.unusedVariables false

/-- strings.SplitSeq: three boxes and the function value over them. -/
theorem ss_any (s : ByteArray) (w : World) :
    Calls Tryd.prog 11 #[.string s, .string ⟨#[44]⟩] w fun e w' => e = .returned (.func (.func 13) #[] #[.pointer (some ⟨w.heap.size + 1, 0, none⟩), .pointer (some ⟨w.heap.size, 0, none⟩), .pointer (some ⟨w.heap.size + 1 + 1, 0, none⟩)]) ∧
      w' = ((w.alloc (.cells #[.string s] 9)).alloc (.cells #[.string ⟨#[44]⟩] 9)).alloc (.cells #[.int .i64 0] 3) := by
  go_enter Tryd.func11, Tryd.ntmps11
  go_wp2
  go_ret
  exact ⟨rfl, rfl⟩

/-- What the function's own boxes hold while the loop runs. -/
def Cells (N : Nat) (item : ByteArray) (r : Bool) (W : World) : Prop :=
  W.cell? ⟨N, 0, none⟩ = some (.string item) ∧ W.cell? ⟨N + 1, 0, none⟩ = some (.bool r) ∧ W.frozen? ⟨N + 1, 0, none⟩ = false ∧ (∃ v, W.cell? ⟨N + 1 + 1, 0, none⟩ = some v) ∧ W.frozen? ⟨N + 1 + 1, 0, none⟩ = false ∧
    W.cell? ⟨N + 1 + 1 + 1, 0, none⟩ = some (.string ⟨#[44]⟩) ∧ W.cell? ⟨N + 1 + 1 + 1 + 1, 0, none⟩ = some (.int .i64 0)
theorem Cells.put {N : Nat} {item : ByteArray} {r : Bool} {W : World} (h : Cells N item r W) {l : Nat} {o : Obj} (o' : Obj) (hl : W.heap[l]? = some o) (ho : o.isCells = false) : Cells N item r (W.putObj l o') := by
  obtain ⟨h1, h2, h3, ⟨v, h4⟩, h5, h6, h7⟩ := h
  have hg := grownBy_putObj' W l o'
  have hr : ∀ r, some l = some r → ∃ o : Obj, W.heap[r]? = some o ∧ o.isCells = false := fun r e => by cases e; exact ⟨o, hl, ho⟩
  exact ⟨cell_kept h1 hg hr, cell_kept h2 hg hr, (frozen_kept h2 hg hr).trans h3, ⟨v, cell_kept h4 hg hr⟩, (frozen_kept h4 hg hr).trans h5, cell_kept h6 hg hr, cell_kept h7 hg hr⟩
theorem Cells.new {N : Nat} {item : ByteArray} {r : Bool} {W : World} (h : Cells N item r W) (o : Obj) : Cells N item r (W.alloc o) := by
  obtain ⟨h1, h2, h3, ⟨v, h4⟩, h5, h6, h7⟩ := h
  have hg := World.grownBy_alloc W o none
  have hr : ∀ r : Nat, none = some r → ∃ o : Obj, W.heap[r]? = some o ∧ o.isCells = false := fun r e => by cases e
  exact ⟨cell_kept h1 hg hr, cell_kept h2 hg hr, (frozen_kept h2 hg hr).trans h3, ⟨v, cell_kept h4 hg hr⟩, (frozen_kept h4 hg hr).trans h5, cell_kept h6 hg hr, cell_kept h7 hg hr⟩
theorem ne_block {a b : Nat} (h : a ≠ b) : (⟨a, 0, none⟩ : Addr) ≠ ⟨b, 0, none⟩ := fun e => h (by cases e; rfl)
theorem other_cell {W : World} {a b : Nat} (h : a ≠ b) (v : Value) : (W.setCell ⟨a, 0, none⟩ v).cell? ⟨b, 0, none⟩ = W.cell? ⟨b, 0, none⟩ := by
  apply World.cell?_setCell_other; exact ne_block h
theorem Cells.rest {N : Nat} {item : ByteArray} {r : Bool} {W : World} (h : Cells N item r W) (v : Value) : Cells N item r (W.setCell ⟨N + 1 + 1, 0, none⟩ v) := by
  obtain ⟨h1, h2, h3, ⟨v0, h4⟩, h5, h6, h7⟩ := h
  refine ⟨?_, ?_, ?_, ⟨v, World.cell?_setCell_same' _ _ _ (by rw [h4]; rfl)⟩, ?_, ?_, ?_⟩
  · rw [other_cell (by omega)]; exact h1
  · rw [other_cell (by omega)]; exact h2
  · rw [World.frozen?_setCell]; exact h3
  · rw [World.frozen?_setCell]; exact h5
  · rw [other_cell (by omega)]; exact h6
  · rw [other_cell (by omega)]; exact h7
theorem Cells.store {N : Nat} {item : ByteArray} {r : Bool} {W : World} (h : Cells N item r W) (r' : Bool) : Cells N item r' (W.setCell ⟨N + 1, 0, none⟩ (.bool r')) := by
  obtain ⟨h1, h2, h3, ⟨v0, h4⟩, h5, h6, h7⟩ := h
  refine ⟨?_, World.cell?_setCell_same' _ _ _ (by rw [h2]; rfl), ?_, ⟨v0, ?_⟩, ?_, ?_, ?_⟩
  · rw [other_cell (by omega)]; exact h1
  · rw [World.frozen?_setCell]; exact h3
  · rw [other_cell (by omega)]; exact h4
  · rw [World.frozen?_setCell]; exact h5
  · rw [other_cell (by omega)]; exact h6
  · rw [other_cell (by omega)]; exact h7

/-- HOW A ROUND OF THE LOOP MAY BE LEFT: it goes on; it returns. -/
def roundOk (Bs : Nat) (I Ix : List (List UInt8) → World → Prop) (xs : List (List UInt8)) (W : World) : Exit → Act → World → Prop
  | .normal, _, W' => KeepsOthers W W' ∧ W'.cell? ⟨Bs, 0, none⟩ = W.cell? ⟨Bs, 0, none⟩ ∧ I xs W'
  | .ret, _, W' => KeepsOthers W W' ∧ Ix xs W'
  | _, _, _ => False

/-- **A LOOP OVER strings.SplitSeq**: the iterator keeps what is left in a cell of its own (Bs): the caller's invariant abides a store there. -/
theorem range_split {n : Nat} (hn : 3 ≤ n) {ps : Array Tmp} {assign body : Code} {Q : Exit → Act → World → Prop} {a : Act} {w : World} {Bs Bp Bv : Nat}
    (hg : a.eval (.tmp 7) = .func (.func 13) #[] #[.pointer (some ⟨Bp, 0, none⟩), .pointer (some ⟨Bs, 0, none⟩), .pointer (some ⟨Bv, 0, none⟩)]) (hps : ps.size = 1)
    (I Ix : List (List UInt8) → World → Prop)
    (hput : ∀ pre W l o o', I pre W → w.heap.size ≤ l → W.heap[l]? = some o → o.isCells = false → I pre (W.putObj l o'))
    (hputx : ∀ pre W l o o', Ix pre W → w.heap.size ≤ l → W.heap[l]? = some o → o.isCells = false → Ix pre (W.putObj l o'))
    (hnew : ∀ o o', I [] ((w.alloc o).alloc o'))
    (hst : ∀ pre W v, I pre W → I pre (W.setCell ⟨Bs, 0, none⟩ v))
    (hfa : ∀ pre W, I pre W → W.cell? ⟨Bp, 0, none⟩ = some (.string ⟨#[44]⟩) ∧ W.cell? ⟨Bv, 0, none⟩ = some (.int .i64 0) ∧ W.frozen? ⟨Bs, 0, none⟩ = false)
    (s : ByteArray) (hs : s.size ≤ 1048576) (hc : ∀ o o', ((w.alloc o).alloc o').cell? ⟨Bs, 0, none⟩ = some (.string s))
    (hBs : Bs < w.heap.size)
    (a₁ : ByteArray → Act)
    (hassign : ∀ (l : Nat) (x : ByteArray) (W : World) (K : Act → World → Prop), K (a₁ x) W →
      assign.wpIn (Fence.wide.inRound l) (n - 1 - 1) Tryd.prog (Exit.then K (fun _ _ _ => False)) { tmps := (ps.zip #[.string x]).foldl (fun t (p, v) => t.setIfInBounds p v) a.tmps, defers := [] } W)
    (hbody : ∀ (l : Nat) (pre : List (List UInt8)) (x : ByteArray) (W : World), I pre W → body.wpIn (Fence.wide.inRound l) (n - 1 - 1) Tryd.prog (roundOk Bs I Ix (pre ++ [x.data.toList]) W) (a₁ x) W)
    (hdone : ∀ (D : Nat) (W : World), w.heap.size ≤ D → I (segs s.data.toList) W → W.heap[D]? = some (.deferred (some [])) → Q .normal { a with defers := { target := .collected D, args := #[] } :: a.defers } W)
    (hstop : ∀ (D : Nat) (pre : List (List UInt8)) (W : World), w.heap.size ≤ D → pre <+: segs s.data.toList → Ix pre W → W.heap[D]? = some (.deferred (some [])) → Code.ret.wpIn Fence.wide n Tryd.prog Q { a with defers := { target := .collected D, args := #[] } :: a.defers } W) :
    (Code.rangeFunc (.tmp 7) ps assign body).wpIn Fence.wide n Tryd.prog Q a w := by
  refine wpIn_rangeFunc ?_
  intro fn _
  have h1 : 1 ≤ n := by omega
  obtain ⟨rec, hrec⟩ : ∃ rec : LoopState → Option Code → Loop, rec = fun st pe => { state := st, pending := pe, fn, tmps := a.tmps, params := ps, assign, body, defers := w.heap.size } := ⟨_, rfl⟩
  obtain ⟨W1, hW1⟩ : ∃ W1, (w.alloc (.deferred (some []))).alloc (.loop (rec .ready none)) = W1 := ⟨_, rfl⟩
  have hL1 : W1.heap[w.heap.size + 1]? = some (.loop (rec .ready none)) := by
    rw [← hW1]; have := World.alloc_heap_new (w.alloc (.deferred (some []))) (.loop (rec .ready none)); rwa [World.size_alloc] at this
  have hK1 : W1.heap[w.heap.size]? = some (.deferred (some [])) := by
    rw [← hW1]; exact (Below.heap_alloc _ _ _ (by simp)).trans (World.alloc_heap_new w _)
  have hI1 : I [] W1 := by rw [← hW1]; exact hnew _ _
  have hc1 : W1.cell? ⟨Bs, 0, none⟩ = some (.string s) := by rw [← hW1]; exact hc _ _
  refine ⟨w.heap.size + 1, [{ target := .collected w.heap.size, args := #[] }], W1, { target := .fn (.func 13) #[.pointer (some ⟨Bp, 0, none⟩), .pointer (some ⟨Bs, 0, none⟩), .pointer (some ⟨Bv, 0, none⟩)], args := #[.func (.yield (w.heap.size + 1)) #[] #[]] }, W1, 13,
    #[.func (.yield (w.heap.size + 1)) #[] #[], .pointer (some ⟨Bp, 0, none⟩), .pointer (some ⟨Bs, 0, none⟩), .pointer (some ⟨Bv, 0, none⟩)], W1, ?_, ?_, ?_, ?_, fun _ => h1, ?_⟩
  · rw [← hW1, hrec]; exact run_enterLoop_outer _ _ _ _ _
  · simp only [resolve, hg]
    simp [go_sem]
  · intro f' _; trivial
  · have eg : ∀ args w, (callFunc 13 args).run Tryd.prog w = .ok (.enter 13 args) w := enters_of Tryd.func13 (by kernel_rfl) rfl
    simp [invoke, go_sem, eg]
  · refine (it_in (n - 1) (by omega) (w.heap.size + 1) Bs Bp Bv
      (fun pre W => I pre W ∧ W.heap[w.heap.size + 1]? = some (.loop (rec .ready none)) ∧ W.heap[w.heap.size]? = some (.deferred (some [])))
      (fun pre W => Ix pre W ∧ W.heap[w.heap.size + 1]? = some (.loop (rec .done (some .ret))) ∧ W.heap[w.heap.size]? = some (.deferred (some [])))
      (fun pre W v ⟨hi, hl, hk⟩ => ⟨hst pre W v hi, (KeepsOthers.setCell W _ _).same _ _ hl rfl, (KeepsOthers.setCell W _ _).same _ _ hk rfl⟩)
      (fun pre W ⟨hi, _, _⟩ => hfa pre W hi) ?_ s hs W1 hc1 ⟨hI1, hL1, hK1⟩).mono ?_
    · rintro pre x W ⟨hi, hl, hk⟩
      have hlt : w.heap.size + 1 < W.heap.size := (Array.getElem?_eq_some_iff.1 hl).1
      have hy := run_yield (P := Tryd.prog) (args := #[.string x]) hl (by rw [hrec]; exact hps.symm)
      rw [hrec] at hy
      refine ⟨fn, _, assign, body, hy, roundIn_of_wpIn trivial (hassign _ x W _ ⟨_, run_beginRound hl (by rw [hrec]), ?_⟩)⟩
      have hl2 : (W.putObj (w.heap.size + 1) (.loop { rec .ready none with state := .busy })).heap[w.heap.size + 1]? = some (.loop { rec .ready none with state := .busy }) := World.putObj_heap_same hlt
      have hk2 : (W.putObj (w.heap.size + 1) (.loop { rec .ready none with state := .busy })).heap[w.heap.size]? = some (.deferred (some [])) := (World.putObj_heap_other (by omega)).trans hk
      have cellP : ∀ (V : World) (o o' : Obj), V.heap[w.heap.size + 1]? = some o → (V.putObj (w.heap.size + 1) o').cell? ⟨Bs, 0, none⟩ = V.cell? ⟨Bs, 0, none⟩ := fun V o o' ho => by
        unfold World.cell?
        rw [World.putObj_heap_other (show Bs ≠ w.heap.size + 1 by omega)]
      have fin : ∀ (jump : Option Code) (W3 : World), KeepsOthers (W.putObj (w.heap.size + 1) (.loop { rec .ready none with state := .busy })) W3 →
          (Instr.endRound (w.heap.size + 1) jump).run Tryd.prog W3 = .ok (.bool jump.isNone) (W3.putObj (w.heap.size + 1) (.loop (rec (if jump.isNone then .ready else .done) jump))) ∧
          W3.heap[w.heap.size + 1]? = some (.loop { rec .ready none with state := .busy }) ∧
          (W3.putObj (w.heap.size + 1) (.loop (rec (if jump.isNone then .ready else .done) jump))).heap[w.heap.size + 1]? = some (.loop (rec (if jump.isNone then .ready else .done) jump)) ∧
          (W3.putObj (w.heap.size + 1) (.loop (rec (if jump.isNone then .ready else .done) jump))).heap[w.heap.size]? = some (.deferred (some [])) := fun jump W3 hk3 => by
        have hl3 := hk3.same _ _ hl2 rfl
        have := run_endRound (P := Tryd.prog) jump hl3
        rw [hrec] at this ⊢
        exact ⟨this, by rw [hrec] at hl3; exact hl3, World.putObj_heap_same (Array.getElem?_eq_some_iff.1 hl3).1, (World.putObj_heap_other (by omega)).trans (hk3.same _ _ hk2 rfl)⟩
      refine wpIn_mono (hbody _ pre x _ (hput pre W _ _ _ hi (by omega) hl rfl)) ?_
      rintro e a3 W3 hp
      cases e with
      | normal =>
        obtain ⟨hk3, hcc, hi3⟩ := hp
        obtain ⟨hr, hl3, hl4, hk4⟩ := fin none W3 hk3
        exact ⟨_, _, hr, .inl ⟨rfl, ⟨hput _ _ _ _ _ hi3 (by omega) hl3 rfl, hl4, hk4⟩, (cellP W3 _ _ hl3).trans (hcc.trans (cellP W _ _ hl))⟩⟩
      | ret =>
        obtain ⟨hk3, hi3⟩ := hp
        obtain ⟨hr, hl3, hl4, hk4⟩ := fin (some .ret) W3 hk3
        exact ⟨_, _, hr, .inr ⟨rfl, hputx _ _ _ _ _ hi3 (by omega) hl3 rfl, hl4, hk4⟩⟩
      | exit id => exact hp.elim
      | goto t => exact hp.elim
      | panic ch => exact hp.elim
      | outgrown => exact hp.elim
    · rintro e W2 ⟨⟨v, rfl⟩, (⟨hi, hl, hk⟩ | ⟨pre, hpre, hi, hl, hk⟩)⟩
      · exact ⟨none, _, by have := run_endLoop (P := Tryd.prog) hl (by rw [hrec]; simp); rw [hrec] at this; exact this, hdone _ _ (Nat.le_refl _) (hput _ _ _ _ _ hi (by omega) hl rfl) ((World.putObj_heap_other (by omega)).trans hk)⟩
      · exact ⟨some .ret, _, by have := run_endLoop (P := Tryd.prog) hl (by rw [hrec]; simp); rw [hrec] at this; exact this, hstop _ pre _ (Nat.le_refl _) hpre (hputx _ _ _ _ _ hi (by omega) hl rfl) ((World.putObj_heap_other (by omega)).trans hk)⟩

theorem below_put {w W : World} (h : Below w.heap.size w W) {l : Nat} (hl : w.heap.size ≤ l) (o' : Obj) : Below w.heap.size w (W.putObj l o') :=
  h.trans ((Below.refl _ W).grown (grownBy_putObj' W l o') h.size (fun k e => by cases e; exact hl))
theorem cell_two {W : World} {a : Addr} {v : Value} (h : W.cell? a = some v) (o o' : Obj) : ((W.alloc o).alloc o').cell? a = some v :=
  cell_kept (cell_kept h (World.grownBy_alloc W o none) (fun r e => by cases e)) (World.grownBy_alloc _ o' none) (fun r e => by cases e)
/-- The five boxes, just laid. -/
def boxes (w : World) (item list : ByteArray) : World := ((((w.alloc (.cells #[.string item] 9)).alloc (.cells #[.bool false] 4)).alloc (.cells #[.string list] 9)).alloc (.cells #[.string ⟨#[44]⟩] 9)).alloc (.cells #[.int .i64 0] 3)
theorem boxes_cells (w : World) (item list : ByteArray) : Cells w.heap.size item false (boxes w item list) ∧ (boxes w item list).cell? ⟨w.heap.size + 1 + 1, 0, none⟩ = some (.string list) := by
  unfold boxes Cells
  refine ⟨⟨?_, ?_, ?_, ⟨.string list, ?_⟩, ?_, ?_, ?_⟩, ?_⟩ <;> go_simp
theorem boxes_size (w : World) (item list : ByteArray) : (boxes w item list).heap.size = w.heap.size + 1 + 1 + 1 + 1 + 1 := by unfold boxes; simp
theorem boxes_below (w : World) (item list : ByteArray) : Below w.heap.size w (boxes w item list) := by
  unfold boxes; exact (((((Below.refl _ w).alloc (Nat.le_refl _) _).alloc (by simp) _).alloc (by simp; omega) _).alloc (by simp; omega) _).alloc (by simp; omega) _

set_option maxRecDepth 100000 in
set_option maxHeartbeats 1000000 in
theorem listed_in (n : Nat) (hn : 4 ≤ n) (item list : ByteArray) (hs : list.size ≤ 1048576) (w : World) :
    CallsIn Fence.wide n Tryd.prog 10 #[.string item, .string list] w fun e W' => e = .returned (.bool (decide (item.data.toList ∈ segs list.data.toList))) ∧ Below w.heap.size w W' := by
  have h1 : 1 ≤ n := by omega
  refine callsIn_of_wp_marks Tryd.func10 rfl trivial ?_ rfl
  simp only [Tryd.ntmps10, List.size_toArray, List.length_cons, List.length_nil, Nat.reduceAdd, Nat.reduceSub, Array.replicate_succ, Array.replicate_zero, List.push_toArray, List.append_toArray, List.nil_append, List.cons_append]
  gi_wp2_with (refine ⟨trivial, ?_⟩; gi_at_call 11; refine (callsIn_wide.2 (ss_any list _)).mono ?_; rintro e w' ⟨rfl, rfl⟩)
  have hC0 := (boxes_cells w item list).1
  have hL0 := (boxes_cells w item list).2
  have hz0 := boxes_size w item list
  have hB0 := boxes_below w item list
  show Code.wpIn _ _ _ _ _ _ (boxes w item list)
  obtain ⟨W0, hW0⟩ : ∃ W0, boxes w item list = W0 := ⟨_, rfl⟩
  rw [hW0] at hC0 hL0 hz0 hB0 ⊢
  clear hW0
  refine range_split (by omega) (Bs := w.heap.size + 1 + 1) rfl rfl
    (fun pre W => (∀ y ∈ pre, y ≠ item.data.toList) ∧ Cells w.heap.size item false W ∧ Below w.heap.size w W)
    (fun pre W => item.data.toList ∈ pre ∧ Cells w.heap.size item true W ∧ Below w.heap.size w W)
    (fun pre W l o o' ⟨h1, h2, h3⟩ hl ho hoc => ⟨h1, h2.put o' ho hoc, below_put h3 (by omega) o'⟩)
    (fun pre W l o o' ⟨h1, h2, h3⟩ hl ho hoc => ⟨h1, h2.put o' ho hoc, below_put h3 (by omega) o'⟩)
    (fun o o' => ⟨by simp, (hC0.new o).new o', (hB0.alloc (by omega) o).alloc (by simp; omega) o'⟩)
    (fun pre W v ⟨h1, h2, h3⟩ => ⟨h1, h2.rest v, h3.setCell (p := ⟨w.heap.size + 1 + 1, 0, none⟩) (by simp; omega) v⟩)
    (fun pre W ⟨h1, h2, h3⟩ => ⟨h2.2.2.2.2.2.1, h2.2.2.2.2.2.2, h2.2.2.2.2.1⟩)
    list hs (fun o o' => cell_two hL0 o o') (by omega)
    (fun x => { tmps := #[.string item, .string list, .pointer (some ⟨w.heap.size, 0, none⟩), undef, .pointer (some ⟨w.heap.size + 1, 0, none⟩), .string x, .string list, .func (.func 13) #[] #[.pointer (some ⟨w.heap.size + 1 + 1 + 1, 0, none⟩), .pointer (some ⟨w.heap.size + 1 + 1, 0, none⟩), .pointer (some ⟨w.heap.size + 1 + 1 + 1 + 1, 0, none⟩)], .string x, undef, undef, undef], defers := [] }) ?assign ?body ?done ?stop
  case assign =>
    intro l x W K hK
    gi_wp2
    exact hK
  case body =>
    rintro l pre x W ⟨hp, hC, hB⟩
    have hC1 := hC
    obtain ⟨c1, c2, c3, c4, c5, c6, c7⟩ := hC1
    clear c4 c5 c6 c7
    by_cases hx : x.data.toList = item.data.toList
    · have kx : (x.toList == item.toList) = true := by rw [Lib.toList_data, Lib.toList_data, hx]; simp
      have HX : Hid (x.data.toList = item.data.toList) := hx
      clear hx
      gi_wp2
      exact ⟨KeepsOthers.setCell _ _ _, List.mem_append.2 (.inr (by rw [HX.out]; simp)), hC.store true, hB.setCell (p := ⟨w.heap.size + 1, 0, none⟩) (by simp) _⟩
    · have kx : (x.toList == item.toList) = false := by rw [Lib.toList_data, Lib.toList_data]; simpa using hx
      have HX : Hid (¬ x.data.toList = item.data.toList) := hx
      clear hx
      gi_wp2
      refine ⟨KeepsOthers.refl _, rfl, fun y hy => ?_, hC, hB⟩
      rcases List.mem_append.1 hy with h | h
      · exact hp y h
      · simp only [List.mem_singleton] at h; rw [h]; exact HX.out
  case done =>
    rintro D W hD ⟨hp, hC, hB⟩ hK
    have hC1 := hC
    obtain ⟨c1, c2, c3, c4, c5, c6, c7⟩ := hC1
    clear c1 c4 c5 c6 c7
    gi_wp2
    have hK' := (KeepsOthers.setCell W ⟨w.heap.size + 1, 0, none⟩ (.bool false)).same D _ hK rfl
    refine ⟨by simp, .inl ⟨_, _, rfl, run_takeDeferred hK', ?_⟩⟩
    have hc5 := ((hC.store false).put (.deferred none) hK' rfl).2.1
    refine ⟨.bool false, ?_, by rw [decide_eq_false (fun h => hp _ h rfl)], below_put (hB.setCell (p := ⟨w.heap.size + 1, 0, none⟩) (by simp) _) (by omega) _⟩
    simp [results, Tryd.f10, go_sem, hc5]
  case stop =>
    rintro D pre W hD hpre ⟨hin, hC, hB⟩ hK
    gi_wp2
    refine ⟨by simp, .inl ⟨_, _, rfl, run_takeDeferred hK, ?_⟩⟩
    have hc5 := (hC.put (.deferred none) hK rfl).2.1
    refine ⟨.bool true, ?_, by rw [decide_eq_true (hpre.subset hin)], below_put hB (by omega) _⟩
    simp [results, Tryd.f10, go_sem, hc5]
end Go.Proofs.Qxb6604084aDoor
