import Derived.Test.Qxb6604104aDoorW1
import Derived.Test.Qxb6604104aDoorRows
import Derived.Lib.LaidTab
import Derived.Deep.SlicePairs
import Derived.Stop.LaidErr
import Derived.LaidOnce
namespace Go.Proofs.Qxb6604104aDoor
open Go.RowKit Go.Deep
set_option linter.unusedSimpArgs false
set_option linter.unusedVariables false

def orbL : List (Int × Int) := [(75, 107), (83, 115), (107, 8490), (115, 383), (181, 924), (197, 229), (223, 7838), (229, 8491), (304, 304), (305, 305), (383, 83), (452, 453), (453, 454), (454, 452), (455, 456), (456, 457), (457, 455), (458, 459), (459, 460), (460, 458), (497, 498), (498, 499), (499, 497), (837, 921), (912, 8147), (914, 946), (917, 949), (920, 952), (921, 953), (922, 954), (924, 956), (928, 960), (929, 961), (931, 962), (934, 966), (937, 969), (944, 8163), (946, 976), (949, 1013), (952, 977), (953, 8126), (954, 1008), (956, 181), (960, 982), (961, 1009), (962, 963), (963, 931), (966, 981), (969, 8486), (976, 914), (977, 1012), (981, 934), (982, 928), (1008, 922), (1009, 929), (1012, 920), (1013, 917), (1042, 1074), (1044, 1076), (1054, 1086), (1057, 1089), (1058, 1090), (1066, 1098), (1074, 7296), (1076, 7297), (1086, 7298), (1089, 7299), (1090, 7300), (1098, 7302), (1122, 1123), (1123, 7303), (7296, 1042), (7297, 1044), (7298, 1054), (7299, 1057), (7300, 7301), (7301, 1058), (7302, 1066), (7303, 1122), (7304, 42570), (7776, 7777), (7777, 7835), (7835, 7776), (7838, 223), (8126, 837), (8147, 912), (8163, 944), (8486, 937), (8490, 75), (8491, 197), (42570, 42571), (42571, 7304), (64261, 64262), (64262, 64261)]
def foldZ : List Int := (List.range 128).map fun c => ((sf c : Nat) : Int)
theorem fold_tab : (Rows.laid_unicode_asciiFold : DataW Unit) = Lib.tabData .u16 foldZ := by kernel_rfl
theorem orb_tab : (Rows.laid_unicode_caseOrbit : DataW Unit) = .slice (orbL.map fun p => .agg [.lit (.int .u16 p.1), .lit (.int .u16 p.2)]) [] := by kernel_rfl
theorem tabs_of {W : World} {x : String × DataW Unit} {rest : List (String × DataW Unit)} (h : laidMet Tryd.prog (x :: ("unicode.asciiFold", Rows.laid_unicode_asciiFold) :: ("unicode.caseOrbit", Rows.laid_unicode_caseOrbit) :: rest) W) : Tabs W := by
  have h1 := h.tail
  have h2 := h1.tail
  rw [fold_tab] at h1
  rw [orb_tab] at h2
  refine ⟨fun c hc => ?_, ?_⟩
  · have hT := Lib.tabIs_of_head (g := 0) (t := 44) (e := 43) (n := 128) (by kernel_rfl) (by kernel_rfl) Tryd.underlying44 Tryd.underlying43 (by kernel_rfl) (by kernel_rfl) h1
    have := hT.cell (g := 0) (by kernel_rfl) c (by simp [foldZ]; exact hc)
    rw [this]
    simp [foldZ, hc]
  · obtain ⟨ps, ⟨g0, t0, cs0, f0, p0, q0, hg0, ht0, hv0, hd0, _, e0⟩, _, _⟩ := h2
    obtain rfl := Option.some.inj ((show Tryd.prog.globalNamed "unicode.caseOrbit" = some 1 by kernel_rfl).symm.trans hg0)
    obtain rfl := Option.some.inj ((show (Tryd.prog.globals[1]?).map (·.type) = some 45 by kernel_rfl).symm.trans ht0)
    rcases open_slice_pairs Tryd.underlying45 Tryd.underlying48 (by kernel_rfl) rfl rfl (by kernel_rfl) (by kernel_rfl) hd0 with ⟨_, hx⟩ | ⟨a, len, cap, m, n, V0, V1, D0, D1, P0, P1, hcs, hb, hl, hm, hmm, hx, hcell⟩
    · simp at hx
    · have hx1 := congrArg Prod.fst hx
      simp only [DataW.slice.injEq] at hx1
      have hlen : len = 94 := by
        have := congrArg List.length hx1.1
        simpa [orbL] using this.symm
      have hm94 : 94 ≤ m := by rw [hmm]; split <;> omega
      have hD : ∀ i (hi : i < 94), ∃ z0 z1 : Int, orbL[i]? = some (z0, z1) ∧ D0 i = .lit (.int .u16 z0) ∧ D1 i = .lit (.int .u16 z1) := by
        intro i hi
        have h94 : orbL.length = 94 := rfl
        have h3 := congrArg (·[i]?) hx1.1
        have hi2 : i < orbL.length := by rw [h94]; exact hi
        simp only [List.getElem?_map, hlen, List.getElem?_range hi, List.getElem?_eq_getElem hi2, Option.map_some, Option.some.injEq, DataW.agg.injEq, List.cons.injEq, and_true] at h3
        exact ⟨orbL[i].1, orbL[i].2, by rw [List.getElem?_eq_getElem hi2], h3.1.symm, h3.2.symm⟩
      have hC : ∀ i (hi : i < 94) z0 z1, orbL[i]? = some (z0, z1) → W.cell? (a.add (i * 2)) = some (.int .u16 z0) ∧ W.cell? (a.add (i * 2 + 1)) = some (.int .u16 z1) := by
        intro i hi z0 z1 hz
        obtain ⟨y0, y1, hy, hd1, hd2⟩ := hD i hi
        rw [hz] at hy
        cases hy
        obtain ⟨g1, g2, g3, g4⟩ := hcell i (by omega)
        rw [hd1] at g3
        rw [hd2] at g4
        obtain ⟨u0, hu0, hu1, _⟩ := DataW.trod_int Tryd.underlying43 g3
        obtain ⟨v0, hv0', hv1, _⟩ := DataW.trod_int Tryd.underlying43 g4
        simp only [Prod.mk.injEq, DataW.lit.injEq, Lit.int.injEq, true_and] at hu1 hv1
        obtain ⟨rfl, _⟩ := hu1
        obtain ⟨rfl, _⟩ := hv1
        injection hu0 with hu0 _
        injection hv0' with hv0' _
        rw [hu0] at g1
        rw [hv0'] at g2
        exact ⟨g1, g2⟩
      have hsp : a.spot = none := by
        have h0 := (hC 0 (by omega) _ _ rfl).1
        cases hs : a.spot with
        | none => rfl
        | some u =>
          exfalso
          unfold World.cell? at h0
          simp [Addr.add, hs] at h0
          split at h0 <;> simp at h0
      obtain ⟨b, off, sp⟩ := a
      simp only at hsp
      subst hsp
      have hadd : ∀ n, (⟨b, off, none⟩ : Addr).add n = ⟨b, off + n, none⟩ := by
        intro n
        unfold Addr.add
        split
        · rename_i h; rw [h]; rfl
        · rfl
      simp only [hadd] at hC
      obtain ⟨l0⟩ := cs0
      have hcs' : l0 = [.slice (some ⟨b, off, none⟩) len cap] := hcs
      subst hcs'
      subst hlen
      refine ⟨b, off, cap, (World.var?_cell hg0 hv0 0).trans rfl, (hC 47 (by omega) _ _ rfl).1, (hC 71 (by omega) _ _ rfl).1, (hC 83 (by omega) _ _ rfl).1, (hC 89 (by omega) _ _ rfl).1, (hC 86 (by omega) _ _ rfl).1, (hC 88 (by omega) _ _ rfl).1, (hC 88 (by omega) _ _ rfl).2, (hC 87 (by omega) _ _ rfl).1, (hC 23 (by omega) _ _ rfl).1, (hC 11 (by omega) _ _ rfl).1, (hC 5 (by omega) _ _ rfl).1, (hC 8 (by omega) _ _ rfl).1, (hC 10 (by omega) _ _ rfl).1, (hC 10 (by omega) _ _ rfl).2, (hC 9 (by omega) _ _ rfl).1⟩
end Go.Proofs.Qxb6604104aDoor
