import Derived.Test.Qxb6608830aDoorReads
import Derived.Deep.OwnRows
import Derived.Deep.QuietTactic
import Derived.BigQuiet
import Derived.BigRegion
namespace Go.Proofs.Qxb6608830aDoor
open Go.RowKit Go.Deep
set_option maxRecDepth 100000
set_option maxHeartbeats 400000

/-- A row of n elements of three cells (a string, two numbers) from offset off of block b on. -/
def Trip (w : World) (b off n : Nat) (ip : Nat → ByteArray) (port prio : Nat → Int) : Prop :=
  ∀ i, i < n → w.cell? ⟨b, off + i * 3, none⟩ = some (.string (ip i)) ∧ w.cell? ⟨b, off + i * 3 + 1, none⟩ = some (.int .i64 (port i)) ∧ w.cell? ⟨b, off + i * 3 + 2, none⟩ = some (.int .i64 (prio i))

theorem Trip.kept {w w' : World} {b off n : Nat} {ip : Nat → ByteArray} {port prio : Nat → Int} (h : Trip w b off n ip port prio) (hb : Below w.heap.size w w') : Trip w' b off n ip port prio := fun i hi => by
  obtain ⟨h1, h2, h3⟩ := h i hi
  exact ⟨(hb.cell (World.block_lt_of_cell? _ _ h1)).trans h1, (hb.cell (World.block_lt_of_cell? _ _ h2)).trans h2, (hb.cell (World.block_lt_of_cell? _ _ h3)).trans h3⟩

/-- The call came back with a bool. -/
def IsB (e : Ending) : Prop := ∃ x : Bool, e = .returned (.bool x)
theorem isB (x : Bool) : IsB (.returned (.bool x)) := ⟨x, rfl⟩

/-- zzBytes_FnPrioritiesLinesCut: a bool; the world as it was. -/
theorem bytes11_any (s : ByteArray) (a : Option Addr) (b off n cap : Nat) (ha : 0 < n → a = some ⟨b, off, none⟩) (ip : Nat → ByteArray) (port prio : Nat → Int) (cut : Value) (w : World) (hs : s.size ≤ maxLen) (hn : n ≤ maxLen) (hT : Trip w b off n ip port prio) (hip : ∀ i, (ip i).size ≤ maxLen) :
    Calls Tryd.prog 11 #[.string s, .slice a n cap, cut] w fun e w' => IsB e ∧ w = w' := by
  unfold maxLen at hs hn hip
  go_enter Tryd.func11, Tryd.ntmps11
  go_wp2
  case _ => go_ret; exact ⟨isB _, rfl⟩
  case _ => go_ret; exact ⟨isB _, rfl⟩
  case _ => go_ret; exact ⟨isB _, rfl⟩
  go_loop [7, 8] (fun t i => ∃ k : Nat, ∃ z : Int, k ≤ n ∧ i = .int .i64 k ∧ t = .int .i64 z ∧ 0 ≤ z ∧ z ≤ 1048576) (fun _ i => n - (intOf i).toNat)
  case atStart => exact ⟨0, _, Nat.zero_le _, rfl, rfl, by omega, by omega⟩
  case round =>
    obtain ⟨k, z, hk, rfl, rfl, hz0, hz1⟩ := hrel
    by_cases hlt : k < n
    · have e := ha (by omega)
      subst e
      obtain ⟨h1, h2, h3⟩ := hT k hlt
      have hsz := hip k
      clear hip hT ha
      go_wp2
      case _ => go_ret; exact ⟨isB _, rfl⟩
      case _ => go_ret; exact ⟨isB _, rfl⟩
      go_round
      case rel => exact ⟨k + 1, _, by omega, by go_num, rfl, by omega, by omega⟩
      case measure => simp [intOf]; omega
    · go_wp2
      go_ret
      exact ⟨isB _, rfl⟩

end Go.Proofs.Qxb6608830aDoor
