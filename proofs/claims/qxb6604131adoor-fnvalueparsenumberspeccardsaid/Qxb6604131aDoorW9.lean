import Derived.Test.Qxb6604131aDoorW8
import Derived.Deep.DeepCutAuto
import Derived.Deep.CutBlock
namespace Go.Proofs.Qxb6604131aDoor
open Go.RowKit
set_option linter.unusedSimpArgs false
set_option linter.unusedVariables false

theorem Num.set0 {wr : World} {B : Nat} {neg : Bool} {a b : ByteArray} (h : Num wr B neg a b) (x : Bool) : Num (wr.setCell ⟨B, 0, none⟩ (.bool x)) B x a b := heap_setCell_same wr B 0 _ 36 _ h
theorem Num.set1 {wr : World} {B : Nat} {neg : Bool} {a b : ByteArray} (h : Num wr B neg a b) (x : ByteArray) : Num (wr.setCell ⟨B, 1, none⟩ (.string x)) B neg x b := heap_setCell_same wr B 1 _ 36 _ h
theorem Num.set2 {wr : World} {B : Nat} {neg : Bool} {a b : ByteArray} (h : Num wr B neg a b) (x : ByteArray) : Num (wr.setCell ⟨B, 2, none⟩ (.string x)) B neg a x := heap_setCell_same wr B 2 _ 36 _ h
theorem Num.other {wr : World} {B : Nat} {neg : Bool} {a b : ByteArray} (h : Num wr B neg a b) {k i : Nat} (hk : B ≠ k) (v : Value) : Num (wr.setCell ⟨k, i, none⟩ v) B neg a b := (Below.heap_setCell wr ⟨k, i, none⟩ v B hk).trans h
theorem Num.drewN {wr : World} {B : Nat} {neg : Bool} {a b : ByteArray} (h : Num wr B neg a b) (n : Nat) : Num (wr.drewN n) B neg a b := h

theorem below_c {B i : Nat} {a w : World} (h : Below B a w) (v : Value) : Below B a (w.setCell ⟨B, i, none⟩ v) := h.setCell (Nat.le_refl _) _
theorem below_d {B i : Nat} {a w : World} (h : Below B a w) (v : Value) : Below B a (w.setCell ⟨B + 1, i, none⟩ v) := h.setCell (Nat.le_succ _) _
theorem pn_zero {neg : Bool} {t m a b : List UInt8} (hm : m = t.takeWhile notE) (ha : a = m.takeWhile notP) (hb : b = (m.dropWhile notP).drop 1) (h : a ++ b = [] ∨ a.all isD = false ∨ b.all isD = false) : PN neg t = (false, [], [], false) := by
  subst hm ha hb
  unfold PN
  simp only
  rw [if_pos h]
theorem pn_plain {neg : Bool} {t m a b : List UInt8} (hm : m = t.takeWhile notE) (ha : a = m.takeWhile notP) (hb : b = (m.dropWhile notP).drop 1) (h : ¬ (a ++ b = [] ∨ a.all isD = false ∨ b.all isD = false)) (hx : t.dropWhile notE = []) : PN neg t = (NO neg (a.dropWhile isZ) b, a.dropWhile isZ, b, true) := by
  subst hm ha hb
  unfold PN
  simp only [hx]
  rw [if_neg h]
theorem pn_none {neg : Bool} {t m a b x : List UInt8} {c : UInt8} (hm : m = t.takeWhile notE) (ha : a = m.takeWhile notP) (hb : b = (m.dropWhile notP).drop 1) (h : ¬ (a ++ b = [] ∨ a.all isD = false ∨ b.all isD = false)) (hx : t.dropWhile notE = c :: x) (he : PE x (m.length + 1500) = none) : PN neg t = (false, [], [], false) := by
  subst hm ha hb
  unfold PN
  simp only [hx, he]
  rw [if_neg h]
theorem pn_some {neg : Bool} {t m a b x : List UInt8} {c : UInt8} {n : Int} (hm : m = t.takeWhile notE) (ha : a = m.takeWhile notP) (hb : b = (m.dropWhile notP).drop 1) (h : ¬ (a ++ b = [] ∨ a.all isD = false ∨ b.all isD = false)) (hx : t.dropWhile notE = c :: x) (he : PE x (m.length + 1500) = some n) : PN neg t = (NO neg (SH (a.dropWhile isZ) b n).1 (SH (a.dropWhile isZ) b n).2, (SH (a.dropWhile isZ) b n).1, (SH (a.dropWhile isZ) b n).2, true) := by
  subst hm ha hb
  unfold PN
  simp only [hx, he]
  rw [if_neg h]
theorem clampA_le (limit : Nat) : ∀ (l : List UInt8) (n : Nat), n ≤ limit → clampA limit l n ≤ limit
  | [], n, h => h
  | c :: l, n, h => clampA_le limit l _ (Nat.min_le_right _ _)
theorem pe_le {x : List UInt8} {limit : Nat} {n : Int} (h : PE x limit = some n) : -(limit : Int) ≤ n ∧ n ≤ (limit : Int) := by
  unfold PE at h
  split at h
  · cases h
  · have hc := clampA_le limit (sgn x).2 0 (Nat.zero_le _)
    have h2 := Option.some.inj h
    split at h2
    · omega
    · omega
theorem sh_len (w f : List UInt8) (n : Int) (N L : Nat) (hz : w.length + f.length ≤ N) (hn1 : -(L : Int) ≤ n) (hn2 : n ≤ (L : Int)) : (SH w f n).2.length ≤ 2 * N + L := by
  unfold SH
  simp only
  have hd := drop_len isZ (w ++ f)
  rw [List.length_append] at hd
  obtain ⟨d, hdd⟩ : ∃ d, (w ++ f).dropWhile isZ = d := ⟨_, rfl⟩
  rw [hdd] at hd ⊢
  split
  · show f.length ≤ _; omega
  · split
    · exact Nat.zero_le _
    · split
      · show (d.drop _).length ≤ _
        simp; omega
      · show (zeros _ ++ d).length ≤ _
        simp [zeros]; omega

/-- parseNumber's answer. -/
def PNA (x : List UInt8) (w : World) (e : Ending) (w' : World) : Prop := ∃ (neg ok : Bool) (a b : ByteArray), e = .returned (.tuple #[.agg #[.bool neg, .string a, .string b], .bool ok]) ∧ PN (sgn x).1 (sgn x).2 = (neg, a.data.toList, b.data.toList, ok) ∧ Below w.heap.size w w'
/-- Behind the sign. -/
def PC (x : ByteArray) (w : World) (v : Value) (wx : World) : Prop := ∃ (t : ByteArray) (neg : Bool), v = .string t ∧ sgn x.data.toList = (neg, t.data.toList) ∧ t.size ≤ x.size ∧ Num wx w.heap.size false ⟨#[]⟩ ⟨#[]⟩ ∧ Num wx (w.heap.size + 1) neg ⟨#[]⟩ ⟨#[]⟩ ∧ Below w.heap.size w wx
/-- Behind the search for the exponent. -/
def PC2 (t : ByteArray) (w : World) (neg : Bool) (v5 v6 : Value) (wx : World) : Prop := ∃ m ex : ByteArray, v5 = .string m ∧ v6 = .string ex ∧ m.data.toList = t.data.toList.takeWhile notE ∧ ((t.data.toList.dropWhile notE = [] ∧ m.size = t.size) ∨ (∃ c, t.data.toList.dropWhile notE = c :: ex.data.toList ∧ m.size < t.size)) ∧ ex.size ≤ t.size ∧ m.size ≤ t.size ∧ Num wx w.heap.size false ⟨#[]⟩ ⟨#[]⟩ ∧ Num wx (w.heap.size + 1) neg ⟨#[]⟩ ⟨#[]⟩ ∧ Below w.heap.size w wx

set_option maxRecDepth 100000 in
set_option maxHeartbeats 1000000 in
theorem pnum_any (x : ByteArray) (w : World) (hx : x.size ≤ 65536) : Calls Tryd.prog 21 #[.string x] w (PNA x.data.toList w) := by
  have ch : ∀ c : UInt8, ∀ b : Bool, (b = true ↔ x.data.toList.head? = some c) → ∀ W : World, Calls Tryd.prog 26 #[.string x, .string ⟨#[c]⟩] W fun e w' => e = .returned (.bool b) ∧ w' = W := by
    intro c b hb W
    cases b with
    | true => exact hp_yes x c W (hb.1 rfl)
    | false => exact hp_no x c W (fun h => by have := hb.2 h; cases this)
  obtain ⟨b1, hb1⟩ : ∃ b1 : Bool, (b1 = true ↔ x.data.toList.head? = some 45) := ⟨decide _, decide_eq_true_iff⟩
  obtain ⟨b2, hb2⟩ : ∃ b2 : Bool, (b2 = true ↔ x.data.toList.head? = some 43) := ⟨decide _, decide_eq_true_iff⟩
  have c1 := ch 45 b1 hb1
  have c2 := ch 43 b2 hb2
  have H1 : Hid (b1 = true ↔ x.data.toList.head? = some 45) := hb1
  have H2 : Hid (b2 = true ↔ x.data.toList.head? = some 43) := hb2
  clear ch hb1 hb2
  go_enter Tryd.func21, Tryd.ntmps21
  go_upto_block 0 with fail
  have hm1 : Num ((w.alloc (.cells #[.bool false, .string ⟨#[]⟩, .string ⟨#[]⟩] 36)).alloc (.cells #[.bool false, .string ⟨#[]⟩, .string ⟨#[]⟩] 36)) w.heap.size false ⟨#[]⟩ ⟨#[]⟩ := heap_alloc2_old _ _ _
  have hm2 : Num ((w.alloc (.cells #[.bool false, .string ⟨#[]⟩, .string ⟨#[]⟩] 36)).alloc (.cells #[.bool false, .string ⟨#[]⟩, .string ⟨#[]⟩] 36)) (w.heap.size + 1) false ⟨#[]⟩ ⟨#[]⟩ := heap_alloc2_new _ _ _
  have hbl : Below w.heap.size w ((w.alloc (.cells #[.bool false, .string ⟨#[]⟩, .string ⟨#[]⟩] 36)).alloc (.cells #[.bool false, .string ⟨#[]⟩, .string ⟨#[]⟩] 36)) := ((Below.refl _ w).alloc (Nat.le_refl _) _).alloc (by simp) _
  obtain ⟨W, hW⟩ : ∃ W, (w.alloc (.cells #[.bool false, .string ⟨#[]⟩, .string ⟨#[]⟩] 36)).alloc (.cells #[.bool false, .string ⟨#[]⟩, .string ⟨#[]⟩] 36) = W := ⟨_, rfl⟩
  rw [hW] at hm1 hm2 hbl ⊢
  have HM1 : Hid (Num W w.heap.size false ⟨#[]⟩ ⟨#[]⟩) := hm1
  have HM2 : Hid (Num W (w.heap.size + 1) false ⟨#[]⟩ ⟨#[]⟩) := hm2
  have HB : Hid (Below w.heap.size w W) := hbl
  clear hW hm1 hm2 hbl
  go_cut [0] (fun v wx => PC x w v wx)
  case first =>
    go_wp2_with fail
    refine (c1 W).mono ?_
    rintro e w1 ⟨rfl, hw⟩
    rw [hw]
    clear hw c1
    have d0 := HM2.out.c0; have d1 := HM2.out.c1; have d2 := HM2.out.c2; have f2 := HM2.out.fz
    cases b1 with
    | true =>
      have hm : x.data.toList.head? = some 45 := H1.out.1 rfl
      have k1 : (1 : Int) ≤ (x.size : Int) := by have := size_of_head hm; omega
      have HS : Hid (sgn x.data.toList = (true, (x.extract 1 x.size).data.toList)) := by show sgn x.data.toList = _; unfold sgn; rw [if_pos hm, tail_list]
      clear hm
      go_wp2_with fail
      go_meet
      case rel => exact ⟨_, true, rfl, HS.out, by simp, HM1.out.other (by omega) _, HM2.out.set0 true, HB.out.setCell (Nat.le_succ _) _⟩
    | false =>
      have hm : ¬ x.data.toList.head? = some 45 := fun h => by have := H1.out.2 h; cases this
      go_wp2_with fail
      refine (c2 W).mono ?_
      rintro e w1 ⟨rfl, hw⟩
      rw [hw]
      clear hw c2
      cases b2 with
      | true =>
        have hp : x.data.toList.head? = some 43 := H2.out.1 rfl
        have k1 : (1 : Int) ≤ (x.size : Int) := by have := size_of_head hp; omega
        have HS : Hid (sgn x.data.toList = (false, (x.extract 1 x.size).data.toList)) := by show sgn x.data.toList = _; unfold sgn; rw [if_neg hm, if_pos hp, tail_list]
        clear hm hp
        go_wp2_with fail
        go_meet
        case rel => exact ⟨_, false, rfl, HS.out, by simp, HM1.out, HM2.out, HB.out⟩
      | false =>
        have hp : ¬ x.data.toList.head? = some 43 := fun h => by have := H2.out.2 h; cases this
        have HS : Hid (sgn x.data.toList = (false, x.data.toList)) := by show sgn x.data.toList = _; unfold sgn; rw [if_neg hm, if_neg hp]
        clear hm hp
        go_wp2_with fail
        go_meet
        case rel => exact ⟨_, false, rfl, HS.out, Nat.le_refl _, HM1.out, HM2.out, HB.out⟩
  case rest =>
    clear HM1 HM2 HB H1 H2 c1 c2
    obtain ⟨t, neg, rfl, hsg, htz, n1, n2, hb⟩ := hcut
    have HS : Hid (sgn x.data.toList = (neg, t.data.toList)) := hsg
    clear hsg
    have ci := ia_any t wc (by omega)
    have hix := ixAny t.data.toList
    obtain ⟨I, hI⟩ : ∃ I, Lib.indexAny t.data.toList [101, 69] = I := ⟨_, rfl⟩
    rw [hI] at ci hix
    have HIX : Hid ((I = -1 ∧ t.data.toList.takeWhile notE = t.data.toList ∧ t.data.toList.dropWhile notE = []) ∨ (∃ k : Nat, I = k ∧ k < t.data.toList.length ∧ t.data.toList.takeWhile notE = t.data.toList.take k ∧ t.data.toList.dropWhile notE = t.data.toList.drop k)) := hix
    clear hI hix
    go_wp2_with fail
    refine ci.mono ?_
    rintro e w2 ⟨rfl, hb2⟩
    clear ci
    have HM1 : Hid (Num w2 w.heap.size false ⟨#[]⟩ ⟨#[]⟩) := n1.later hb2 n1.lt
    have HM2 : Hid (Num w2 (w.heap.size + 1) neg ⟨#[]⟩ ⟨#[]⟩) := n2.later hb2 n2.lt
    have HB : Hid (Below w.heap.size w w2) := hb.trans (hb2.mono hb.size)
    clear n1 n2 hb hb2
    go_upto_if 28 with fail
    go_cut [5, 6] (fun m ex wx => PC2 t w neg m ex wx)
    case first =>
      rcases HIX.out with ⟨hI, h1, h2⟩ | ⟨k, hI, hk, h1, h2⟩
      · have k0 : ¬ (0 : Int) ≤ I := by omega
        have HH : Hid (t.data.toList.takeWhile notE = t.data.toList ∧ t.data.toList.dropWhile notE = []) := ⟨h1, h2⟩
        clear h1 h2 HIX hI
        go_wp2_with fail
        go_meet
        case rel => exact ⟨t, ⟨#[]⟩, rfl, rfl, HH.out.1.symm, .inl ⟨HH.out.2, rfl⟩, Nat.zero_le _, Nat.le_refl _, HM1.out, HM2.out, HB.out⟩
      · obtain ⟨c, hc⟩ : ∃ c, t.data.toList.drop k = c :: t.data.toList.drop (k + 1) := ⟨_, List.drop_eq_getElem_cons hk⟩
        rw [← Lib.size_eq] at hk
        have HH : Hid (t.data.toList.takeWhile notE = t.data.toList.take k ∧ t.data.toList.dropWhile notE = c :: t.data.toList.drop (k + 1)) := ⟨h1, h2.trans hc⟩
        have hkI : (k : Int) < (t.size : Int) := by omega
        have hkJ : (k : Int) + 1 ≤ (t.size : Int) := by omega
        have hkN : (0 : Int) ≤ (k : Int) := by omega
        clear h1 h2 HIX hc
        subst hI
        go_wp2_with fail
        go_quiet (fail)
        go_wp2_with fail
        go_meet
        case rel => exact ⟨t.extract 0 k, t.extract (k + 1) t.size, rfl, rfl, by rw [HH.out.1, ext_to], .inr ⟨c, by rw [HH.out.2, ext_from], by simp; omega⟩, by first | (simp; done) | (simp; omega), by first | (simp; done) | (simp; omega), HM1.out.drewN _, HM2.out.drewN _, below_drewN HB.out _⟩
    case rest =>
      clear HM1 HM2 HB HIX
      obtain ⟨m, ex, rfl, rfl, hml, hex, hez, hmz, n1, n2, hb⟩ := hcut
      have HML : Hid (m.data.toList = t.data.toList.takeWhile notE) := hml
      have HEX : Hid ((t.data.toList.dropWhile notE = [] ∧ m.size = t.size) ∨ (∃ c, t.data.toList.dropWhile notE = c :: ex.data.toList ∧ m.size < t.size)) := hex
      clear hml hex
      go_wp2_with fail
      refine (cut_any m wc (by omega)).mono ?_
      rintro e w3 ⟨a, b, okc, rfl, ha, hb3, n, hw⟩
      have n1' := n1.drewN n
      have n2' := n2.drewN n
      have hb' := below_drewN hb n
      rw [← hw] at n1' n2' hb'
      clear hw n1 n2 hb
      have hab : a.size + b.size ≤ m.size := by
        have h1 : (m.data.toList.takeWhile notP).length + (m.data.toList.dropWhile notP).length = m.data.toList.length := by rw [← List.length_append, List.takeWhile_append_dropWhile]
        rw [Lib.size_eq, Lib.size_eq, Lib.size_eq, ha, hb3, List.length_drop]
        omega
      have HA : Hid (a.data.toList = m.data.toList.takeWhile notP) := ha
      have HBB : Hid (b.data.toList = (m.data.toList.dropWhile notP).drop 1) := hb3
      have HM1 : Hid (Num w3 w.heap.size false ⟨#[]⟩ ⟨#[]⟩) := n1'
      have HM2 : Hid (Num w3 (w.heap.size + 1) neg ⟨#[]⟩ ⟨#[]⟩) := n2'
      have HB : Hid (Below w.heap.size w w3) := hb'
      clear ha hb3 n1' n2' hb'
      by_cases h0 : a.data.toList ++ b.data.toList = []
      · have k0 : (a ++ b).toList.isEmpty = true := toList_nil.2 (by rw [app_list]; exact h0)
        have HP : Hid (PN neg t.data.toList = (false, [], [], false)) := pn_zero HML.out HA.out HBB.out (.inl h0)
        clear h0
        have c0 := HM1.out.c0; have c1 := HM1.out.c1; have c2 := HM1.out.c2; have f1 := HM1.out.fz
        go_wp2_with fail
        refine bodyPost_ret (v := .tuple #[.agg #[.bool false, .string ⟨#[]⟩, .string ⟨#[]⟩], .bool false]) (by simp [results, Tryd.results21, go_sem, c0, c1, c2]) rfl ⟨false, false, ⟨#[]⟩, ⟨#[]⟩, rfl, by rw [HS.out]; exact HP.out, ?_⟩
        exact below_c (below_c (below_c HB.out _) _) _
      · have k0 : (a ++ b).toList.isEmpty = false := toList_not (by rw [app_list]; exact h0)
        have H0 : Hid (¬ a.data.toList ++ b.data.toList = []) := h0
        clear h0
        have ca := alldig_any a w3 (by omega)
        cases hda : a.data.toList.all isD with
        | false =>
          rw [hda] at ca
          have HP : Hid (PN neg t.data.toList = (false, [], [], false)) := pn_zero HML.out HA.out HBB.out (.inr (.inl hda))
          clear hda
          go_wp2_with fail
          refine ca.mono ?_
          rintro e w4 ⟨rfl, hb4⟩
          clear ca
          have n1 := HM1.out.later hb4 HM1.out.lt
          have n2 := HM2.out.later hb4 HM2.out.lt
          have hb' := HB.out.trans (hb4.mono HB.out.size)
          clear HM1 HM2 HB hb4
          have HM1 : Hid (Num w4 w.heap.size false ⟨#[]⟩ ⟨#[]⟩) := n1
          have HM2 : Hid (Num w4 (w.heap.size + 1) neg ⟨#[]⟩ ⟨#[]⟩) := n2
          have HB : Hid (Below w.heap.size w w4) := hb'
          clear n1 n2 hb'
          have c0 := HM1.out.c0; have c1 := HM1.out.c1; have c2 := HM1.out.c2; have f1 := HM1.out.fz
          go_wp2_with fail
          refine bodyPost_ret (v := .tuple #[.agg #[.bool false, .string ⟨#[]⟩, .string ⟨#[]⟩], .bool false]) (by simp [results, Tryd.results21, go_sem, c0, c1, c2]) rfl ⟨false, false, ⟨#[]⟩, ⟨#[]⟩, rfl, by rw [HS.out]; exact HP.out, ?_⟩
          exact below_c (below_c (below_c HB.out _) _) _
        | true =>
          rw [hda] at ca
          have HDA : Hid (a.data.toList.all isD = true) := hda
          clear hda
          go_wp2_with fail
          refine ca.mono ?_
          rintro e w4 ⟨rfl, hb4⟩
          clear ca
          have n1 := HM1.out.later hb4 HM1.out.lt
          have n2 := HM2.out.later hb4 HM2.out.lt
          have hb' := HB.out.trans (hb4.mono HB.out.size)
          clear HM1 HM2 HB hb4
          have HM1 : Hid (Num w4 w.heap.size false ⟨#[]⟩ ⟨#[]⟩) := n1
          have HM2 : Hid (Num w4 (w.heap.size + 1) neg ⟨#[]⟩ ⟨#[]⟩) := n2
          have HB : Hid (Below w.heap.size w w4) := hb'
          clear n1 n2 hb'
          have cb := alldig_any b w4 (by omega)
          cases hdb : b.data.toList.all isD with
          | false =>
            rw [hdb] at cb
            have HP : Hid (PN neg t.data.toList = (false, [], [], false)) := pn_zero HML.out HA.out HBB.out (.inr (.inr hdb))
            clear hdb
            go_wp2_with fail
            refine cb.mono ?_
            rintro e w5 ⟨rfl, hb5⟩
            clear cb
            have n1 := HM1.out.later hb5 HM1.out.lt
            have n2 := HM2.out.later hb5 HM2.out.lt
            have hb' := HB.out.trans (hb5.mono HB.out.size)
            clear HM1 HM2 HB hb5
            have HM1 : Hid (Num w5 w.heap.size false ⟨#[]⟩ ⟨#[]⟩) := n1
            have HM2 : Hid (Num w5 (w.heap.size + 1) neg ⟨#[]⟩ ⟨#[]⟩) := n2
            have HB : Hid (Below w.heap.size w w5) := hb'
            clear n1 n2 hb'
            have c0 := HM1.out.c0; have c1 := HM1.out.c1; have c2 := HM1.out.c2; have f1 := HM1.out.fz
            go_wp2_with fail
            refine bodyPost_ret (v := .tuple #[.agg #[.bool false, .string ⟨#[]⟩, .string ⟨#[]⟩], .bool false]) (by simp [results, Tryd.results21, go_sem, c0, c1, c2]) rfl ⟨false, false, ⟨#[]⟩, ⟨#[]⟩, rfl, by rw [HS.out]; exact HP.out, ?_⟩
            exact below_c (below_c (below_c HB.out _) _) _
          | true =>
            rw [hdb] at cb
            have HG : Hid (¬ (a.data.toList ++ b.data.toList = [] ∨ a.data.toList.all isD = false ∨ b.data.toList.all isD = false)) := by
              rintro (h | h | h)
              · exact H0.out h
              · rw [HDA.out] at h; cases h
              · rw [hdb] at h; cases h
            clear hdb H0 HDA
            go_wp2_with fail
            refine cb.mono ?_
            rintro e w5 ⟨rfl, hb5⟩
            clear cb
            have n1 := HM1.out.later hb5 HM1.out.lt
            have n2 := HM2.out.later hb5 HM2.out.lt
            have hb' := HB.out.trans (hb5.mono HB.out.size)
            clear HM1 HM2 HB hb5
            have HM1 : Hid (Num w5 w.heap.size false ⟨#[]⟩ ⟨#[]⟩) := n1
            have HM2 : Hid (Num w5 (w.heap.size + 1) neg ⟨#[]⟩ ⟨#[]⟩) := n2
            have HB : Hid (Below w.heap.size w w5) := hb'
            clear n1 n2 hb'
            go_wp2_with fail
            refine (trimL_any a w5).mono ?_
            rintro e w6 ⟨a1, rfl, ha1, hw⟩
            rw [hw]
            clear hw
            have ha1z : a1.size ≤ a.size := by
              have := drop_len isZ a.data.toList
              rw [← ha1, ← Lib.size_eq, ← Lib.size_eq] at this
              exact this
            have HA1 : Hid (a1.data.toList = a.data.toList.dropWhile isZ) := ha1
            clear ha1
            have c0 := HM1.out.c0; have c1 := HM1.out.c1; have c2 := HM1.out.c2; have f1 := HM1.out.fz
            have d0 := HM2.out.c0; have d1 := HM2.out.c1; have d2 := HM2.out.c2; have f2 := HM2.out.fz
            have n1 := (HM1.out.other (k := w.heap.size + 1) (i := 1) (by omega) (.string a1)).other (k := w.heap.size + 1) (i := 2) (by omega) (.string b)
            have n2 := (HM2.out.set1 a1).set2 b
            have hb6 := (HB.out.setCell (p := ⟨w.heap.size + 1, 1, none⟩) (Nat.le_succ _) (.string a1)).setCell (p := ⟨w.heap.size + 1, 2, none⟩) (Nat.le_succ _) (.string b)
            obtain ⟨W6, hW6⟩ : ∃ W6, (w5.setCell ⟨w.heap.size + 1, 1, none⟩ (.string a1)).setCell ⟨w.heap.size + 1, 2, none⟩ (.string b) = W6 := ⟨_, rfl⟩
            rw [hW6] at n1 n2 hb6
            have N1 : Hid (Num W6 w.heap.size false ⟨#[]⟩ ⟨#[]⟩) := n1
            have N2 : Hid (Num W6 (w.heap.size + 1) neg a1 b) := n2
            have HB6 : Hid (Below w.heap.size w W6) := hb6
            have HW6 : Hid ((w5.setCell ⟨w.heap.size + 1, 1, none⟩ (.string a1)).setCell ⟨w.heap.size + 1, 2, none⟩ (.string b) = W6) := hW6
            clear n1 n2 hb6 hW6
            rcases HEX.out with ⟨hx0, hmt⟩ | ⟨c, hxc, hmt⟩
            · have kq : ((m.size : Int) == (t.size : Int)) = true := beq_iff_eq.2 (by omega)
              have HP : Hid (PN neg t.data.toList = (NO neg a1.data.toList b.data.toList, a1.data.toList, b.data.toList, true)) := by
                show _ = _
                rw [HA1.out]; exact pn_plain HML.out HA.out HBB.out HG.out hx0
              clear HEX hx0
              obtain ⟨NN, hNN⟩ : ∃ NN, NO neg a1.data.toList b.data.toList = NN := ⟨_, rfl⟩
              have cn := normal_any neg a1 b W6 (by omega)
              rw [hNN] at HP cn
              clear hNN
              go_wp2_with fail
              rw [HW6.out]
              refine cn.mono ?_
              rintro e w7 ⟨rfl, hb7⟩
              clear cn
              have n1 := N1.out.later hb7 N1.out.lt
              have HB7 : Hid (Below w.heap.size w w7) := HB6.out.trans (hb7.mono HB6.out.size)
              clear c0 c1 c2 f1 d0 d1 d2 f2 hb7
              have c0 := n1.c0; have c1 := n1.c1; have c2 := n1.c2; have f1 := n1.fz
              clear n1
              go_wp2_with fail
              refine bodyPost_ret (v := .tuple #[.agg #[.bool NN, .string a1, .string b], .bool true]) (by simp [results, Tryd.results21, go_sem, c0, c1, c2]) rfl ⟨NN, true, a1, b, rfl, by rw [HS.out]; exact HP.out, ?_⟩
              exact below_c (below_c (below_c HB7.out _) _) _
            · have kq : ((m.size : Int) == (t.size : Int)) = false := beq_eq_false_iff_ne.2 (by omega)
              have HXC : Hid (t.data.toList.dropWhile notE = c :: ex.data.toList) := hxc
              clear HEX hxc
              have cp := pe_any ex (m.size + 1500) W6 (by omega) (by omega)
              rw [show ((m.size + 1500 : Nat) : Int) = (m.size : Int) + 1500 by omega] at cp
              go_wp2_with fail
              rw [HW6.out]
              refine cp.mono ?_
              rintro e w7 ⟨n7, ok7, rfl, hpe, hb7⟩
              clear cp
              have n1 := N1.out.later hb7 N1.out.lt
              have n2 := N2.out.later hb7 N2.out.lt
              have HB7 : Hid (Below w.heap.size w w7) := HB6.out.trans (hb7.mono HB6.out.size)
              have M1 : Hid (Num w7 w.heap.size false ⟨#[]⟩ ⟨#[]⟩) := n1
              have M2 : Hid (Num w7 (w.heap.size + 1) neg a1 b) := n2
              clear c0 c1 c2 f1 d0 d1 d2 f2 hb7 n1 n2
              have c0 := M1.out.c0; have c1 := M1.out.c1; have c2 := M1.out.c2; have f1 := M1.out.fz
              have d0 := M2.out.c0; have d1 := M2.out.c1; have d2 := M2.out.c2; have f2 := M2.out.fz
              cases ok7 with
              | false =>
                have HP : Hid (PN neg t.data.toList = (false, [], [], false)) := pn_none HML.out HA.out HBB.out HG.out HXC.out (by rw [← Lib.size_eq]; exact hpe)
                clear hpe
                go_wp2_with fail
                refine bodyPost_ret (v := .tuple #[.agg #[.bool false, .string ⟨#[]⟩, .string ⟨#[]⟩], .bool false]) (by simp [results, Tryd.results21, go_sem, c0, c1, c2]) rfl ⟨false, false, ⟨#[]⟩, ⟨#[]⟩, rfl, by rw [HS.out]; exact HP.out, ?_⟩
                exact below_c (below_c (below_c HB7.out _) _) _
              | true =>
                have hpe2 : PE ex.data.toList (m.size + 1500) = some n7 := hpe
                have hle := pe_le hpe2
                have HP0 := pn_some (neg := neg) HML.out HA.out HBB.out HG.out HXC.out (n := n7) (by rw [← Lib.size_eq]; exact hpe2)
                rw [← HA1.out] at HP0
                have HP : Hid (PN neg t.data.toList = (NO neg (SH a1.data.toList b.data.toList n7).1 (SH a1.data.toList b.data.toList n7).2, (SH a1.data.toList b.data.toList n7).1, (SH a1.data.toList b.data.toList n7).2, true)) := HP0
                clear hpe hpe2 HP0
                have hl1 : -(100000 : Int) ≤ n7 := by omega
                have hl2 : n7 ≤ (100000 : Int) := by omega
                clear hle
                have cs := shift_any neg a1 b n7 w7 (by omega) hl1 hl2
                have hsl := sh_len a1.data.toList b.data.toList n7 65536 100000 (by rw [← Lib.size_eq, ← Lib.size_eq]; omega) hl1 hl2
                go_wp2_with fail
                refine cs.mono ?_
                rintro e w8 ⟨a9, b9, rfl, hab9, hb8⟩
                clear cs
                rw [← hab9] at hsl HP
                have hb9 : b9.size ≤ 1048576 := by rw [Lib.size_eq]; simp only at hsl; omega
                clear hab9 hsl
                have n1 := M1.out.later hb8 M1.out.lt
                have HB8 : Hid (Below w.heap.size w w8) := HB7.out.trans (hb8.mono HB7.out.size)
                have M8 : Hid (Num w8 w.heap.size false ⟨#[]⟩ ⟨#[]⟩) := n1
                clear n1 hb8 c0 c1 c2 f1 d0 d1 d2 f2
                have cn := normal_any neg a9 b9 w8 hb9
                obtain ⟨NN, hNN⟩ : ∃ NN, NO neg a9.data.toList b9.data.toList = NN := ⟨_, rfl⟩
                have HQ : Hid (PN neg t.data.toList = (NO neg a9.data.toList b9.data.toList, a9.data.toList, b9.data.toList, true)) := HP.out
                rw [hNN] at HQ cn
                clear hNN HP
                go_wp2_with fail
                refine cn.mono ?_
                rintro e w9 ⟨rfl, hb9b⟩
                clear cn
                have n1 := M8.out.later hb9b M8.out.lt
                have HB9 : Hid (Below w.heap.size w w9) := HB8.out.trans (hb9b.mono HB8.out.size)
                clear hb9b
                have c0 := n1.c0; have c1 := n1.c1; have c2 := n1.c2; have f1 := n1.fz
                clear n1
                go_wp2_with fail
                refine bodyPost_ret (v := .tuple #[.agg #[.bool NN, .string a9, .string b9], .bool true]) (by simp [results, Tryd.results21, go_sem, c0, c1, c2]) rfl ⟨NN, true, a9, b9, rfl, by rw [HS.out]; exact HQ.out, ?_⟩
                exact below_c (below_c (below_c HB9.out _) _) _
end Go.Proofs.Qxb6604131aDoor
