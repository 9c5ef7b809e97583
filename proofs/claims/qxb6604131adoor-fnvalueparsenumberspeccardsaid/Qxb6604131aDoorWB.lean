import Derived.Test.Qxb6604131aDoorW9
namespace Go.Proofs.Qxb6604131aDoor
open Go.RowKit
set_option linter.unusedSimpArgs false
set_option linter.unusedVariables false

/-- ZZParseNumber's answer. -/
def ZA (x : List UInt8) (w : World) (e : Ending) (w' : World) : Prop := ∃ (neg ok : Bool) (a b : ByteArray), e = .returned (.tuple #[.bool neg, .string a, .string b, .bool ok]) ∧ PN (sgn x).1 (sgn x).2 = (neg, a.data.toList, b.data.toList, ok) ∧ Below w.heap.size w w'
set_option maxRecDepth 100000 in
set_option maxHeartbeats 400000 in
theorem zz12 (x : ByteArray) (w : World) (hx : x.size ≤ 65536) : Calls Tryd.prog 12 #[.string x] w (ZA x.data.toList w) := by
  go_enter Tryd.func12, Tryd.ntmps12
  go_wp2_with fail
  refine (pnum_any x w hx).mono ?_
  rintro e w1 ⟨neg, ok, a, b, rfl, hp, hb⟩
  have HP : Hid (PN (sgn x.data.toList).1 (sgn x.data.toList).2 = (neg, a.data.toList, b.data.toList, ok)) := hp
  have HB : Hid (Below w.heap.size w w1) := hb
  clear hp hb
  go_wp2_with fail
  go_quiet (fail)
  go_wp2_with fail
  refine bodyPost_ret (v := .tuple #[.bool neg, .string a, .string b, .bool ok]) (by simp [results, Tryd.results12, go_sem]) rfl ⟨neg, ok, a, b, rfl, HP.out, below_drewN (HB.out.alloc HB.out.size _) _⟩
end Go.Proofs.Qxb6604131aDoor
