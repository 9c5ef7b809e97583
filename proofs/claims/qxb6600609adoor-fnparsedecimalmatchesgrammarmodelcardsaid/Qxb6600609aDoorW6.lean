import Derived.Test.Qxb6600609aDoorW5
import Derived.BigQuiet
import Derived.Deep.QuietTactic
namespace Go.Proofs.Qxb6600609aDoor
open Go.RowKit
set_option linter.unusedSimpArgs false
set_option linter.unusedVariables false
set_option maxRecDepth 100000 in
set_option maxHeartbeats 1000000 in
theorem zz_any (s : ByteArray) (w : World) (hs : s.size ≤ 1048576) (ev : Value) (hv : w.cell? ⟨1, 0, none⟩ = some ev) (hev : ev = .nilIface ∨ ∃ te pe, ev = .iface te pe) :
    Calls Tryd.prog 8 #[.string s] w fun e w' => ∃ neg d x ok, e = .returned (.tuple #[.bool neg, .string d, .int .i64 x, .bool ok]) ∧ (neg, d.data.toList, x, ok) = decP s.data.toList ∧ Below w.heap.size w w' := by
  go_enter Tryd.func8, Tryd.ntmps8
  go_wp2_with fail
  refine (pd_any s _ hs ev hv hev).mono ?_
  rintro e w1 ⟨neg, d, x, ok, rfl, hd, hb⟩
  have HD : Hid ((neg, d.data.toList, x, ok) = decP s.data.toList) := hd
  clear hd
  go_wp2_with fail
  go_quiet (fail)
  go_wp2
  go_returns
  exact ⟨neg, d, x, ok, rfl, HD.out, below_drewN (hb.alloc hb.size _) _⟩
theorem zb_no (s : ByteArray) (w : World) (hs : s.size ≤ maxLen) (h : 1048576 < s.size) :
    Calls Tryd.prog 7 #[.string s] w fun e w' => e = .returned (.bool false) ∧ w' = w := by
  unfold maxLen at hs
  go_enter Tryd.func7, Tryd.ntmps7
  go_wp2
  go_ret
  exact ⟨rfl, rfl⟩
theorem zb_yes (s : ByteArray) (w : World) (h : s.size ≤ 1048576) :
    Calls Tryd.prog 7 #[.string s] w fun e w' => e = .returned (.bool true) ∧ w' = w := by
  go_enter Tryd.func7, Tryd.ntmps7
  go_wp2
  go_ret
  exact ⟨rfl, rfl⟩
end Go.Proofs.Qxb6600609aDoor
