import Derived.Test.Qxb6600609aDoorProg
import Derived.Test.Qxb6600609aDoorPlain
import Derived.WalkKit
import Derived.WalkSpells
import Derived.WalkLawsBesides
import Derived.BigQuiet
import Derived.Deep.QuietTactic
namespace Go.Proofs.Qxb6600609aDoor
open Go.RowKit

/-- Where the loop stops: both halves. -/
theorem ld_end (s : ByteArray) (k : Nat) (h : (s.data.toList.takeWhile isD).length = k) : (s.extract 0 k).data.toList = ld s.data.toList ∧ (s.extract k s.size).data.toList = rd s.data.toList := by
  subst h
  constructor
  · rw [Lib.extract_data]; simp only [List.drop_zero, Nat.sub_zero]; exact take_tw _ _
  · rw [Lib.extract_data, List.take_of_length_le (by simp)]; exact drop_tw _ _

set_option maxHeartbeats 400000 in
theorem ld_any (s : ByteArray) (w : World) (hs : s.size ≤ 1048576) :
    Calls Tryd.prog 20 #[.string s] w fun e w' => ∃ d r : ByteArray, e = .returned (.tuple #[.string d, .string r]) ∧ d.data.toList = ld s.data.toList ∧ r.data.toList = rd s.data.toList ∧ ∃ n, w' = w.drewN n := by
  have hle := tw_le isD s.data.toList
  rw [← Lib.size_eq] at hle
  go_enter Tryd.func20, Tryd.ntmps20
  go_wp2
  go_loop [4] (fun i => ∃ k : Nat, k ≤ (s.data.toList.takeWhile isD).length ∧ i = .int .i64 k) (fun i => s.size - (intOf i).toNat)
  case atStart => exact ⟨0, Nat.zero_le _, rfl⟩
  case round =>
    obtain ⟨k, hk, rfl⟩ := hrel
    by_cases hlt : k < s.size
    · have hg := get_list s k hlt
      by_cases hd : 48 ≤ (s[k].toNat : Int) ∧ (s[k].toNat : Int) ≤ 57
      · have hk1 := tw_step hk hg (isD_yes hd.1 hd.2)
        obtain ⟨hd1, hd2⟩ := hd
        clear hg
        go_wp2
        go_round
        case rel => exact ⟨k + 1, hk1, by go_num⟩
        case measure => simp [intOf]; omega
      · have hend := ld_end s k (tw_stop hk hg (isD_no hd))
        have H : Hid (((s.extract 0 k).data.toList = ld s.data.toList ∧ (s.extract k s.size).data.toList = rd s.data.toList)) := hend
        clear hg hend
        by_cases h48 : 48 ≤ (s[k].toNat : Int)
        · have h57 : ¬ (s[k].toNat : Int) ≤ 57 := by omega
          go_wp2
          go_quiet (fail)
          go_wp2
          go_ret2
          exact ⟨_, _, rfl, H.out.1, H.out.2, _, rfl⟩
        · go_wp2
          go_quiet (fail)
          go_wp2
          go_ret2
          exact ⟨_, _, rfl, H.out.1, H.out.2, _, rfl⟩
    · have H : Hid (((s.extract 0 k).data.toList = ld s.data.toList ∧ (s.extract k s.size).data.toList = rd s.data.toList)) := ld_end s k (by omega)
      go_wp2
      go_quiet (fail)
      go_wp2
      go_ret2
      exact ⟨_, _, rfl, H.out.1, H.out.2, _, rfl⟩
end Go.Proofs.Qxb6600609aDoor
