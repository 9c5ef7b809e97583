import Derived.Test.Qxb6604104aDoorShelf
import Derived.WalkKit
import Derived.WalkSpells
import Derived.WalkLawsBesides
import Derived.Handy
namespace Go.Proofs.Qxb6604104aDoor
open Go.RowKit
set_option linter.unusedSimpArgs false
set_option linter.unusedVariables false

/-- unicode.SimpleFold on the runes that an ASCII letter folds to. -/
def sf (c : Nat) : Nat := if 65 ≤ c ∧ c ≤ 90 then c + 32 else if c = 107 then 8490 else if c = 115 then 383 else if 97 ≤ c ∧ c ≤ 122 then c - 32 else if c = 8490 then 75 else if c = 383 then 83 else c

/-- What the two tables hold, as the walks read them. -/
structure Tabs (w : World) : Prop where
  ascii : ∀ c : Nat, c < 128 → w.cell? ⟨0, c, none⟩ = some (.int .u16 (sf c))
  orbit : ∃ b off cap : Nat, w.cell? ⟨1, 0, none⟩ = some (.slice (some ⟨b, off, none⟩) 94 cap) ∧
    w.cell? ⟨b, off + 94, none⟩ = some (.int .u16 966) ∧ w.cell? ⟨b, off + 142, none⟩ = some (.int .u16 7296) ∧ w.cell? ⟨b, off + 166, none⟩ = some (.int .u16 7838) ∧ w.cell? ⟨b, off + 178, none⟩ = some (.int .u16 8491) ∧
    w.cell? ⟨b, off + 172, none⟩ = some (.int .u16 8163) ∧ w.cell? ⟨b, off + 176, none⟩ = some (.int .u16 8490) ∧ w.cell? ⟨b, off + 177, none⟩ = some (.int .u16 75) ∧ w.cell? ⟨b, off + 174, none⟩ = some (.int .u16 8486) ∧
    w.cell? ⟨b, off + 46, none⟩ = some (.int .u16 837) ∧ w.cell? ⟨b, off + 22, none⟩ = some (.int .u16 452) ∧ w.cell? ⟨b, off + 10, none⟩ = some (.int .u16 197) ∧ w.cell? ⟨b, off + 16, none⟩ = some (.int .u16 304) ∧
    w.cell? ⟨b, off + 20, none⟩ = some (.int .u16 383) ∧ w.cell? ⟨b, off + 21, none⟩ = some (.int .u16 83) ∧ w.cell? ⟨b, off + 18, none⟩ = some (.int .u16 305)

set_option maxRecDepth 100000 in
set_option maxHeartbeats 400000 in
theorem sf_ascii (c : Nat) (hc : c < 128) (w : World) (ht : Tabs w) :
    Calls Tryd.prog 22 #[.int .i32 c] w fun e w' => e = .returned (.int .i32 (sf c)) ∧ w' = w := by
  have h := ht.ascii c hc
  have hb : sf c < 65536 := by
    unfold sf
    (repeat' split) <;> omega
  obtain ⟨f, hf⟩ : ∃ f, sf c = f := ⟨_, rfl⟩
  rw [hf] at h hb ⊢
  clear hf ht
  have i1 : (0 : Int) ≤ (c : Int) := by omega
  have i2 : (c : Int) < 128 := by omega
  go_enter Tryd.func22, Tryd.ntmps22
  go_wp2
  go_ret
  exact ⟨rfl, rfl⟩
set_option maxHeartbeats 1000000 in
theorem sf_kelvin (w : World) (ht : Tabs w) :
    Calls Tryd.prog 22 #[.int .i32 8490] w fun e w' => e = .returned (.int .i32 75) ∧ w' = w := by
  obtain ⟨b, off, cap, h0, h1, h2, h3, h4, h5, h6, h7, h8, _⟩ := ht.orbit
  clear ht
  go_enter Tryd.func22, Tryd.ntmps22
  go_wp2
  go_rounds 9
  go_ret
  exact ⟨rfl, rfl⟩
set_option maxHeartbeats 1000000 in
theorem sf_longs (w : World) (ht : Tabs w) :
    Calls Tryd.prog 22 #[.int .i32 383] w fun e w' => e = .returned (.int .i32 83) ∧ w' = w := by
  obtain ⟨b, off, cap, h0, h1, _, _, _, _, _, _, _, h2, h3, h4, h5, h6, h7, h8⟩ := ht.orbit
  clear ht
  go_enter Tryd.func22, Tryd.ntmps22
  go_wp2
  go_rounds 9
  go_ret
  exact ⟨rfl, rfl⟩
/-- unicode.SimpleFold wherever EqualFold comes to it here. -/
def Orb (c : Nat) : Prop := c < 128 ∨ c = 8490 ∨ c = 383
theorem sf_any (c : Nat) (hc : Orb c) (w : World) (ht : Tabs w) :
    Calls Tryd.prog 22 #[.int .i32 c] w fun e w' => e = .returned (.int .i32 (sf c)) ∧ w' = w := by
  rcases hc with h | rfl | rfl
  · exact sf_ascii c h w ht
  · exact sf_kelvin w ht
  · exact sf_longs w ht
theorem orb_sf (c : Nat) (hc : Orb c) : Orb (sf c) := by
  unfold Orb at *
  unfold sf
  (repeat' split) <;> omega
theorem orb_back (c : Nat) (hc : c < 128) : sf c = c ∨ sf (sf c) = c ∨ sf (sf (sf c)) = c := by
  have : ∀ c : Fin 128, sf c.1 = c.1 ∨ sf (sf c.1) = c.1 ∨ sf (sf (sf c.1)) = c.1 := by decide
  exact this ⟨c, hc⟩
end Go.Proofs.Qxb6604104aDoor
