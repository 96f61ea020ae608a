import Derived.Test.Qxb6608866aBase
import Derived.Deep.Strs
import Derived.ProofKit
namespace Go.Proofs.Qxb6608866a
open Go.ChangeShapes Go.WideShapes Go.ChangeAt Go.RowKit Go.Deep

theorem Try.cells9 : Try.prog.cellsOf 9 = 1 := by kernel_rfl
theorem Try.cells3 : Try.prog.cellsOf 3 = 1 := by kernel_rfl

/-- A slice of strings that came in. -/
theorem open_strings_in {H : Type} {enc : TypeId × Value → H} {W : World} {spare : Nat → Bool} {held : Bool} {fuel : Nat} {a : Option Addr} {n cap : Nat} {x : DataW H × List MemPlace}
    (h : DataW.trod enc Try.prog W 0 spare held fuel 23 [.slice a n cap] = some x) :
    ∃ (b off : Nat) (s : Nat → ByteArray), (0 < n → a = some ⟨b, off, none⟩) ∧ n ≤ maxLen ∧ Strs W b off n s ∧ (∀ i, (s i).size ≤ maxLen) := by
  rcases open_strs Try.underlying23 Try.underlying9 Try.cells9 h with ⟨hcs, _⟩ | ⟨x0, len, cap', m, s, hcs, _, hl, hm, hmm, _, hx⟩
  · simp at hcs
    obtain ⟨rfl, rfl, rfl⟩ := hcs
    exact ⟨0, 0, fun _ => ByteArray.empty, fun h => absurd h (Nat.lt_irrefl _), Nat.zero_le _, fun i hi => absurd hi (Nat.not_lt_zero _), fun _ => Nat.zero_le _⟩
  · simp at hcs
    obtain ⟨rfl, rfl, rfl⟩ := hcs
    have hlm : n ≤ m := by rw [hmm]; split <;> omega
    obtain ⟨b, off, spot⟩ := x0
    have hspot : 0 < n → spot = none := fun h0 => by
      have := (hx 0 (by omega)).1
      simpa [Addr.add] using World.cell?_spot this
    refine ⟨b, off, fun i => if i < n then s i else ByteArray.empty, fun h0 => by rw [hspot h0], by omega, fun i hi => ?_, fun i => ?_⟩
    · have h1 := (hx i (by omega)).1
      have hs := hspot (by omega)
      subst hs
      rw [add_plain] at h1
      simp only [if_pos hi]
      exact h1
    · by_cases hi : i < n
      · simp only [if_pos hi]; exact (hx i (by omega)).2
      · simp only [if_neg hi]; exact Nat.zero_le _

/-- A slice of numbers that came in. -/
theorem open_nums_in {H : Type} {enc : TypeId × Value → H} {W : World} {spare : Nat → Bool} {held : Bool} {fuel : Nat} {a : Option Addr} {n cap : Nat} {x : DataW H × List MemPlace}
    (h : DataW.trod enc Try.prog W 0 spare held fuel 59 [.slice a n cap] = some x) :
    ∃ (b off : Nat) (z : Nat → Int), (0 < n → a = some ⟨b, off, none⟩) ∧ n ≤ maxLen ∧ Nums W b off n z := by
  rcases open_slice1 Try.underlying59 Try.cells3 h with ⟨hcs, _⟩ | ⟨x0, len, cap', m, k, V, D, Pl, hcs, _, hl, hm, hmm, _, hx⟩
  · simp at hcs
    obtain ⟨rfl, rfl, rfl⟩ := hcs
    exact ⟨0, 0, fun _ => 0, fun h => absurd h (Nat.lt_irrefl _), Nat.zero_le _, fun i hi => absurd hi (Nat.not_lt_zero _)⟩
  · simp at hcs
    obtain ⟨rfl, rfl, rfl⟩ := hcs
    have hlm : n ≤ m := by rw [hmm]; split <;> omega
    have each : ∀ i, i < n → ∃ z : Int, W.cell? (x0.add i) = some (.int .i64 z) := fun i hi => by
      obtain ⟨h1, h2⟩ := hx i (by omega)
      obtain ⟨z, e, _, _⟩ := DataW.trod_int Try.underlying3 h2
      simp at e
      exact ⟨z, by rw [h1, e]⟩
    obtain ⟨z, hz⟩ := choose_lt each
    obtain ⟨b, off, spot⟩ := x0
    have hspot : 0 < n → spot = none := fun h0 => by
      have := hz 0 h0
      simpa [Addr.add] using World.cell?_spot this
    refine ⟨b, off, z, fun h0 => by rw [hspot h0], by omega, fun i hi => ?_⟩
    have h1 := hz i hi
    have hs := hspot (by omega)
    subst hs
    rw [add_plain] at h1
    exact h1

end Go.Proofs.Qxb6608866a
