import Derived.Test.Qxb6608866aBase
import Derived.Deep.LoopGhost
namespace Go.Proofs.Qxb6608866a
open Go.RowKit Go.Deep
set_option maxRecDepth 100000
set_option maxHeartbeats 400000

/-- zzBytes_FnResolvedThroughLeafrefWrapper: a bool; the world as it was. -/
theorem bytes24_any (a0 : Option Addr) (n0 cap0 : Nat) (a : Option Addr) (b off n cap : Nat) (ha : 0 < n → a = some ⟨b, off, none⟩) (s : Nat → ByteArray) (x : ByteArray) (w : World) (hS : Strs w b off n s) (hn0 : n0 ≤ maxLen) (hn : n ≤ maxLen) (hs : ∀ i, (s i).size ≤ maxLen) (hx : x.size ≤ maxLen) :
    Calls Try.prog 24 #[.slice a0 n0 cap0, .slice a n cap, .string x] w fun e w' => IsB e ∧ w = w' := by
  unfold maxLen at hn0 hn hs hx
  by_cases c0 : n0 ≤ 1048576
  case neg =>
    have c0' : (1048576 : Int) < (n0 : Int) := by omega
    go_enter Try.func24, Try.ntmps24
    go_wp2
    go_ret
    exact ⟨isB _, rfl⟩
  by_cases c1 : n ≤ 1048576
  case neg =>
    have c0' : ¬ (1048576 : Int) < (n0 : Int) := by omega
    have c1' : (1048576 : Int) < (n : Int) := by omega
    go_enter Try.func24, Try.ntmps24
    go_wp2
    go_ret
    exact ⟨isB _, rfl⟩
  by_cases c2 : n0 + n ≤ 1048576
  case neg =>
    have c0' : ¬ (1048576 : Int) < (n0 : Int) := by omega
    have c1' : ¬ (1048576 : Int) < (n : Int) := by omega
    have c2' : (1048576 : Int) < (n0 : Int) + (n : Int) := by omega
    go_enter Try.func24, Try.ntmps24
    go_wp2
    go_ret
    exact ⟨isB _, rfl⟩
  have c0' : ¬ (1048576 : Int) < (n0 : Int) := by omega
  have c1' : ¬ (1048576 : Int) < (n : Int) := by omega
  have c2' : ¬ (1048576 : Int) < (n0 : Int) + (n : Int) := by omega
  go_enter Try.func24, Try.ntmps24
  go_wp2
  go_loop [7, 8] (fun t i => ∃ k : Nat, ∃ z : Int, k ≤ n ∧ i = .int .i64 k ∧ t = .int .i64 z ∧ 0 ≤ z ∧ z ≤ 1048576) (fun _ i => n - (intOf i).toNat)
  case atStart => exact ⟨0, _, Nat.zero_le _, rfl, rfl, by omega, by omega⟩
  case round =>
    obtain ⟨k, z, hk, rfl, rfl, hz0, hz1⟩ := hrel
    by_cases hlt : k < n
    · have e := ha (by omega)
      subst e
      have h1 := hS k hlt
      have hsz := hs k
      clear hs hS ha
      go_wp2
      case _ => go_ret; exact ⟨isB _, rfl⟩
      case _ => go_ret; exact ⟨isB _, rfl⟩
      go_round
      case rel => exact ⟨k + 1, _, by omega, by go_num, rfl, by omega, by omega⟩
      case measure => simp [intOf]; omega
    · go_wp2
      all_goals (go_ret; exact ⟨isB _, rfl⟩)

/-- zzChainLen. -/
theorem chainLen_any (a0 : Option Addr) (n0 cap0 : Nat) (a : Option Addr) (n cap : Nat) (w : World) :
    Calls Try.prog 25 #[.slice a0 n0 cap0, .slice a n cap] w fun e w' => e = .returned (.int .i64 (min n0 n : Nat)) ∧ w = w' := by
  by_cases c : n < n0
  · have c' : (n : Int) < (n0 : Int) := by omega
    go_enter Try.func25, Try.ntmps25
    go_wp2
    go_ret
    exact ⟨by rw [Nat.min_eq_right (by omega)]; rfl, rfl⟩
  · have c' : ¬ (n : Int) < (n0 : Int) := by omega
    go_enter Try.func25, Try.ntmps25
    go_wp2
    go_ret
    exact ⟨by rw [Nat.min_eq_left (by omega)]; rfl, rfl⟩

/-- Is it a supported leafref? -/
def sup (z : Int) (s : ByteArray) : Bool := (z == 14) && s.toList.isEmpty

theorem sup_any (z : Int) (s : ByteArray) (w : World) :
    Calls Try.prog 26 #[.int .i64 z, .string s] w fun e w' => e = .returned (.bool (sup z s)) ∧ w' = w := by
  by_cases h : z = 14
  · subst h
    go_enter Try.func26, Try.ntmps26
    go_wp2
    go_ret
    exact ⟨by simp [sup], rfl⟩
  · have h' : (z == 14) = false := by simpa using h
    go_enter Try.func26, Try.ntmps26
    go_wp2
    go_ret
    exact ⟨by simp [sup, h'], rfl⟩

/-- (*Type).Resolved along a chain of blocks P 0, P 1, .. P m. -/
theorem resolved_any (P N : Nat → Nat) (m : Nat) (zm : Int) (sm : ByteArray) (w : World)
    (hk : ∀ i, i < m → w.cell? ⟨P i, 0, none⟩ = some (.int .i64 14) ∧ (∃ s : ByteArray, s.toList.isEmpty = true ∧ w.cell? ⟨P i, 18, none⟩ = some (.string s)) ∧ w.cell? ⟨P i, 11, none⟩ = some (.pointer (some ⟨N i, 0, none⟩)) ∧ w.cell? ⟨N i, 7, none⟩ = some (.pointer (some ⟨P (i + 1), 0, none⟩)))
    (hz : w.cell? ⟨P m, 0, none⟩ = some (.int .i64 zm)) (hs : w.cell? ⟨P m, 18, none⟩ = some (.string sm)) (hsup : sup zm sm = false) :
    Calls Try.prog 28 #[.pointer (some ⟨P 0, 0, none⟩)] w fun e w' => e = .returned (.pointer (some ⟨P m, 0, none⟩)) ∧ w = w' := by
  go_enter Try.func28, Try.ntmps28
  go_wp2
  go_loopg [0] m (fun k p wr => ∃ i, i + k = m ∧ p = .pointer (some ⟨P i, 0, none⟩) ∧ wr = w)
  case atStart => exact ⟨0, by omega, rfl, rfl⟩
  case round =>
    obtain ⟨i, hi, rfl, rfl⟩ := hrel
    by_cases hlt : i < m
    · obtain ⟨h1, ⟨s, hs0, h2⟩, h3, h4⟩ := hk i hlt
      have A : Aside (i + gk = m) := hi
      clear hi hk hz hs hsup
      go_wp2
      go_roundg (gk - 1)
      case measure => have := A.out; omega
      case rel => exact ⟨i + 1, by have := A.out; omega, rfl, rfl⟩
    · have e : i = m := by omega
      subst e
      clear hk hi
      by_cases h14 : zm = 14
      · subst h14
        have hne : sm.toList.isEmpty = false := by simpa [sup] using hsup
        go_wp2
        go_ret
        exact ⟨rfl, rfl⟩
      · have h' : (zm == 14) = false := by simpa using h14
        go_wp2
        go_ret
        exact ⟨rfl, rfl⟩

theorem quiet_at {P : Program} {f : FuncId} {args : Array Value} {w : World} {D x : Nat} {v : Value} (h : Calls P f args (w.drewN (D + x)) fun e w' => e = .returned v ∧ w' = w.drewN (D + x)) :
    Calls P f args (w.drewN (D + x)) fun e w'' => e = .returned v ∧ ∃ n, w'' = w.drewN (D + n) := h.mono fun _ _ h => ⟨h.1, x, h.2⟩

/-- zzFirstStop from the start: the first that is no supported leafref. -/
theorem firstStop_any (a0 : Option Addr) (b0 off0 n0 cap0 : Nat) (ha0 : 0 < n0 → a0 = some ⟨b0, off0, none⟩) (z : Nat → Int) (a : Option Addr) (b off n cap : Nat) (ha : 0 < n → a = some ⟨b, off, none⟩) (s : Nat → ByteArray) (k j0 : Nat) (w : World)
    (hZ : Nums w b0 off0 n0 z) (hS : Strs w b off n s) (hk0 : k ≤ n0) (hk : k ≤ n) (hn : k ≤ 65536) (hj : j0 < k) (hall : ∀ i, i < j0 → sup (z i) (s i) = true) (hstop : sup (z j0) (s j0) = false) :
    Calls Try.prog 29 #[.slice a0 n0 cap0, .slice a n cap, .int .i64 0, .int .i64 (k : Int)] w fun e w' => e = .returned (.int .i64 (j0 : Int)) ∧ ∃ d, w' = w.drewN d := by
  have e0 := ha0 (by omega)
  have e1 := ha (by omega)
  subst e0 e1
  go_enter Try.func29, Try.ntmps29
  go_wp2
  go_loopw [9] (fun i wr => ∃ j : Nat, j ≤ j0 ∧ i = .int .i64 j ∧ ∃ d, wr = w.drewN d) (fun i _ => j0 - (intOf i).toNat)
  case atStart => exact ⟨0, Nat.zero_le _, rfl, 0, rfl⟩
  case round =>
    obtain ⟨j, hj0, rfl, d, rfl⟩ := hrel
    have h1 := hZ j (by omega)
    have h2 := hS j (by omega)
    have t1 : (j : Int) < (k : Int) := by omega
    have t2 : (j : Int) < (n0 : Int) := by omega
    have t3 : (j : Int) < (n : Int) := by omega
    by_cases hlt : j < j0
    · have hs := hall j hlt
      clear hall hstop hZ hS ha0 ha
      go_wp2
      go_quiet ((go_at_call 26; exact quiet_at (sup_any _ _ _)))
      go_wp2
      go_roundw
      case rel => exact ⟨j + 1, by omega, by go_num, _, rfl⟩
      case measure => simp [intOf]; omega
    · have e : j = j0 := by omega
      subst e
      clear hall hZ hS ha0 ha
      go_wp2
      go_quiet ((go_at_call 26; exact quiet_at (sup_any _ _ _)))
      go_wp2
      go_ret
      exact ⟨rfl, d + nq, by rw [World.drewN_drewN]⟩

end Go.Proofs.Qxb6608866a
