import Derived.Test.Qxb6608830aDoorIn
import Derived.Deep.Strs
import Derived.Lib.LaidTab
import Derived.LaidMore
import Derived.Stop.LaidErr
import Derived.ProofKit
import Derived.Test.Qxb6608830aDoorShelf
namespace Go.Proofs.Qxb6608830aDoor
open Go.ChangeShapes Go.WideShapes Go.ChangeAt Go.RowKit Go.Deep

theorem Tryd.cells45 : Tryd.prog.cellsOf 45 = 3 := by kernel_rfl
theorem Tryd.cells9 : Tryd.prog.cellsOf 9 = 1 := by kernel_rfl
theorem Tryd.cells3 : Tryd.prog.cellsOf 3 = 1 := by kernel_rfl

/-- What the walks are told of the slice of structs that came in. -/
def IsTrips (W : World) (a : Option Addr) (n : Nat) : Prop :=
  ∃ (b off : Nat) (ip : Nat → ByteArray) (port prio : Nat → Int), (0 < n → a = some ⟨b, off, none⟩) ∧ n ≤ maxLen ∧ Trip W b off n ip port prio ∧ (∀ i, (ip i).size ≤ maxLen) ∧
    (∀ i, -9223372036854775808 ≤ port i ∧ port i ≤ 9223372036854775807) ∧ (∀ i, -9223372036854775808 ≤ prio i ∧ prio i ≤ 9223372036854775807)

theorem open_trips {H : Type} {enc : TypeId × Value → H} {W : World} {spare : Nat → Bool} {held : Bool} {fuel : Nat} {a : Option Addr} {n cap : Nat} {x : DataW H × List MemPlace}
    (h : DataW.trod enc Tryd.prog W 0 spare held fuel 42 [.slice a n cap] = some x) : IsTrips W a n := by
  rcases open_slice Tryd.underlying42 h with ⟨hcs, _⟩ | ⟨x0, len, cap', m, k, D, Pl, hcs, _, hl, hm, hmm, _, hx⟩
  · simp at hcs
    obtain ⟨rfl, rfl, rfl⟩ := hcs
    exact ⟨0, 0, fun _ => ByteArray.empty, fun _ => 0, fun _ => 0, fun h => absurd h (Nat.lt_irrefl _), Nat.zero_le _, fun i hi => absurd hi (Nat.not_lt_zero _), fun _ => Nat.zero_le _, fun _ => by dsimp only; omega, fun _ => by dsimp only; omega⟩
  · simp at hcs
    obtain ⟨rfl, rfl, rfl⟩ := hcs
    have hlm : n ≤ m := by rw [hmm]; split <;> omega
    have each : ∀ i, i < n → ∃ q : ByteArray × Int × Int, W.cell? (x0.add (i * 3)) = some (.string q.1) ∧ W.cell? (x0.add (i * 3 + 1)) = some (.int .i64 q.2.1) ∧ W.cell? (x0.add (i * 3 + 2)) = some (.int .i64 q.2.2) ∧
        q.1.size ≤ maxLen ∧ (Lit.int .i64 q.2.1).wf = true ∧ (Lit.int .i64 q.2.2).wf = true := by
      intro i hi
      obtain ⟨cs', h1, h2⟩ := hx i (by omega)
      rw [Tryd.cells45] at h1
      obtain ⟨_, hlen, hcell⟩ := World.cells?_some h1
      obtain ⟨y0, y1, y2, k', _, _, g0, g1, g2⟩ := trod_struct3 Tryd.underlying45 h2
      match cs', hlen with
      | [v0, v1, v2], _ =>
        simp [Tryd.cells9, Tryd.cells3] at g0 g1 g2
        obtain ⟨s, e0, _, hs⟩ := DataW.trod_string Tryd.underlying9 g0
        obtain ⟨p, e1, _, hp⟩ := DataW.trod_int Tryd.underlying3 g1
        obtain ⟨r, e2, _, hr⟩ := DataW.trod_int Tryd.underlying3 g2
        simp at e0 e1 e2
        subst e0 e1 e2
        have c0 := hcell 0 (by omega)
        have c1 := hcell 1 (by omega)
        have c2 := hcell 2 (by omega)
        rw [add_add] at c0 c1 c2
        exact ⟨(s, p, r), by simpa using c0, by simpa using c1, by simpa using c2, hs, hp, hr⟩
    obtain ⟨q, hq⟩ := choose_lt each
    obtain ⟨b, off, spot⟩ := x0
    have hspot : 0 < n → spot = none := fun h0 => by
      have := (hq 0 h0).1
      simpa [Addr.add] using World.cell?_spot this
    refine ⟨b, off, fun i => if i < n then (q i).1 else ByteArray.empty, fun i => if i < n then (q i).2.1 else 0, fun i => if i < n then (q i).2.2 else 0, fun h0 => by rw [hspot h0], by omega, ?_, ?_, ?_, ?_⟩
    · intro i hi
      obtain ⟨h1, h2, h3, _, _, _⟩ := hq i hi
      have hs := hspot (by omega)
      subst hs
      rw [add_plain] at h1 h2 h3
      simp only [if_pos hi]
      exact ⟨h1, h2, h3⟩
    · intro i
      by_cases hi : i < n
      · dsimp only; rw [if_pos hi]; exact (hq i hi).2.2.2.1
      · dsimp only; rw [if_neg hi]; exact Nat.zero_le _
    · intro i
      by_cases hi : i < n
      · dsimp only; rw [if_pos hi]; exact bounds_i64 (hq i hi).2.2.2.2.1
      · dsimp only; rw [if_neg hi]; omega
    · intro i
      by_cases hi : i < n
      · dsimp only; rw [if_pos hi]; exact bounds_i64 (hq i hi).2.2.2.2.2
      · dsimp only; rw [if_neg hi]; omega

theorem gTab : Tryd.prog.globalNamed tabName = some 0 := by kernel_rfl
theorem tTab : (Tryd.prog.globals[0]?).map (·.type) = some 63 := by kernel_rfl
theorem cells32 : Tryd.prog.cellsOf 32 = 1 := by kernel_rfl
theorem cells63 : Tryd.prog.cellsOf 63 = 20 := by kernel_rfl
theorem tabEq : Rows.laid_internal_strconv_uint64pow10 = Lib.tabData (H := Unit) .u64 Lib.pow10Tab := by kernel_rfl

/-- WHAT THE CONDITION GIVES THE WALKS: the table of the powers of ten. -/
theorem tab_of {W : World} (h : laidMetH Tryd.prog Rows.fnPrioritiesLinesCutRow.laid W) : Lib.TabIs Tryd.prog W tabName .u64 Lib.pow10Tab := by
  rw [MakeChecks.laidMetH_plain _ _ _ (by kernel_rfl)] at h
  have h2 := laidMet.tail (laidMet.tail h)
  rw [tabEq] at h2
  exact Lib.tabIs_of_head (name := tabName) gTab tTab Tryd.underlying63 Tryd.underlying32 cells32 cells63 h2

/-- The door's own heap meets the condition. -/
theorem door_met (os : Os) (args : Array Value) : laidMetH Tryd.prog Rows.fnPrioritiesLinesCutRow.laid ((World.doorLaid Tryd.prog 24 os).forCall (fun _ _ => 0) ⟨#[], args, []⟩).memory :=
  laidMetH_of_parts3 (fuel := 8) (laidMet_of_run' 8 (by kernel_rfl) (by kernel_rfl)) (by kernel_rfl) (by kernel_rfl)

end Go.Proofs.Qxb6608830aDoor
