import Derived.Test.Qxb6608866aProg
import Derived.WalkKit
import Derived.WalkSpells
import Derived.WalkLawsBesides
import Derived.Deep.OwnRows
import Derived.Below
import Derived.OpenShut
import Derived.Handy
import Derived.Deep.QuietTactic
import Derived.BigQuiet
import Derived.BigRegion
namespace Go.Proofs.Qxb6608866a
open Go.RowKit Go.Deep
set_option maxRecDepth 100000
set_option maxHeartbeats 400000

/-- A row of n strings from offset off of block b on. -/
def Strs (w : World) (b off n : Nat) (s : Nat → ByteArray) : Prop := ∀ i, i < n → w.cell? ⟨b, off + i, none⟩ = some (.string (s i))
/-- A row of n numbers. -/
def Nums (w : World) (b off n : Nat) (z : Nat → Int) : Prop := ∀ i, i < n → w.cell? ⟨b, off + i, none⟩ = some (.int .i64 (z i))

theorem Strs.kept {w w' : World} {b off n : Nat} {s : Nat → ByteArray} (h : Strs w b off n s) (hb : Below w.heap.size w w') : Strs w' b off n s := fun i hi => (hb.cell (World.block_lt_of_cell? _ _ (h i hi))).trans (h i hi)
theorem Nums.kept {w w' : World} {b off n : Nat} {z : Nat → Int} (h : Nums w b off n z) (hb : Below w.heap.size w w') : Nums w' b off n z := fun i hi => (hb.cell (World.block_lt_of_cell? _ _ (h i hi))).trans (h i hi)

/-- The call came back with a bool. -/
def IsB (e : Ending) : Prop := ∃ x : Bool, e = .returned (.bool x)
theorem isB (x : Bool) : IsB (.returned (.bool x)) := ⟨x, rfl⟩
/-- The call came back with a number from -1 to 2^20. -/
def IsI (e : Ending) : Prop := ∃ z : Int, -1 ≤ z ∧ z ≤ 1048576 ∧ e = .returned (.int .i64 z)
theorem isI (z : Int) (h0 : -1 ≤ z) (h1 : z ≤ 1048576) : IsI (.returned (.int .i64 z)) := ⟨z, h0, h1, rfl⟩

/-- zzBudgetLeft: a number; the world as it was. -/
theorem budget_any (a : Option Addr) (b off n cap : Nat) (ha : 0 < n → a = some ⟨b, off, none⟩) (s : Nat → ByteArray) (rest : Int) (w : World) (hS : Strs w b off n s) (hn : n ≤ maxLen) (hs : ∀ i, (s i).size ≤ maxLen) (h0 : 0 ≤ rest) (h1 : rest ≤ 1048576) :
    Calls Try.prog 18 #[.slice a n cap, .int .i64 rest] w fun e w' => IsI e ∧ w = w' := by
  unfold maxLen at hn hs
  go_enter Try.func18, Try.ntmps18
  go_wp2
  go_loop [1, 5] (fun t i => ∃ k : Nat, ∃ z : Int, k ≤ n ∧ i = .int .i64 k ∧ t = .int .i64 z ∧ 0 ≤ z ∧ z ≤ 1048576) (fun _ i => n - (intOf i).toNat)
  case atStart => exact ⟨0, _, Nat.zero_le _, rfl, rfl, h0, h1⟩
  case round =>
    obtain ⟨k, z, hk, rfl, rfl, hz0, hz1⟩ := hrel
    by_cases hlt : k < n
    · have e := ha (by omega)
      subst e
      have h1 := hS k hlt
      have hsz := hs k
      clear hS ha hs
      by_cases c1 : z < 16
      · go_wp2
        go_ret
        exact ⟨isI _ (by decide) (by decide), rfl⟩
      by_cases c2 : z - 16 < ((s k).size : Int)
      · go_wp2
        go_ret
        exact ⟨isI _ (by decide) (by decide), rfl⟩
      go_wp2
      go_round
      case rel => exact ⟨k + 1, _, by omega, by go_num, rfl, by omega, by omega⟩
      case measure => simp [intOf]; omega
    · go_wp2
      go_ret
      exact ⟨isI _ (by omega) (by omega), rfl⟩

end Go.Proofs.Qxb6608866a
