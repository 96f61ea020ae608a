import Derived.Test.Qxb6608866aBase
namespace Go.Proofs.Qxb6608866a
open Go.RowKit Go.Deep
set_option maxRecDepth 100000
set_option maxHeartbeats 1000000

theorem bytes22_any (a0 : Option Addr) (b0 off0 n0 cap0 : Nat) (ha0 : 0 < n0 → a0 = some ⟨b0, off0, none⟩) (s : Nat → ByteArray) (a1 : Option Addr) (b1 off1 n1 cap1 : Nat) (ha1 : 0 < n1 → a1 = some ⟨b1, off1, none⟩) (t : Nat → ByteArray) (x : ByteArray) (w : World)
    (hS : Strs w b0 off0 n0 s) (hT : Strs w b1 off1 n1 t) (hn0 : n0 ≤ maxLen) (hn1 : n1 ≤ maxLen) (hs : ∀ i, (s i).size ≤ maxLen) (ht : ∀ i, (t i).size ≤ maxLen) (hx : x.size ≤ maxLen) :
    Calls Try.prog 22 #[.slice a0 n0 cap0, .slice a1 n1 cap1, .string x] w fun e w' => IsB e ∧ w = w' := by
  unfold maxLen at hn0 hn1 hs ht hx
  by_cases c0 : n0 ≤ 1048576
  case neg =>
    have c0' : (1048576 : Int) < (n0 : Int) := by omega
    go_enter Try.func22, Try.ntmps22
    go_wp2
    go_ret
    exact ⟨isB _, rfl⟩
  have c0' : ¬ (1048576 : Int) < (n0 : Int) := by omega
  go_enter Try.func22, Try.ntmps22
  go_wp2
  go_loop [7, 8] (fun tt i => ∃ k : Nat, ∃ z : Int, k ≤ n0 ∧ i = .int .i64 k ∧ tt = .int .i64 z ∧ 0 ≤ z ∧ z ≤ 1048576) (fun _ i => n0 - (intOf i).toNat)
  case atStart => exact ⟨0, _, Nat.zero_le _, rfl, rfl, by omega, by omega⟩
  case round =>
    obtain ⟨k, z, hk, rfl, rfl, hz0, hz1⟩ := hrel
    by_cases hlt : k < n0
    · have e := ha0 (by omega)
      subst e
      have h1 := hS k hlt
      have hsz := hs k
      clear hs hS ha0 hT ha1 ht
      go_wp2
      case _ => go_ret; exact ⟨isB _, rfl⟩
      case _ => go_ret; exact ⟨isB _, rfl⟩
      go_round
      case rel => exact ⟨k + 1, _, by omega, by go_num, rfl, by omega, by omega⟩
      case measure => simp [intOf]; omega
    · by_cases c1 : n1 ≤ 1048576
      case neg =>
        have c1' : (1048576 : Int) < (n1 : Int) := by omega
        go_wp2
        go_ret
        exact ⟨isB _, rfl⟩
      have c1' : ¬ (1048576 : Int) < (n1 : Int) := by omega
      by_cases c2 : (1048576 : Int) < z + (n1 : Int)
      · go_wp2
        go_ret
        exact ⟨isB _, rfl⟩
      go_wp2
      go_loop [7, 9] (fun tt i => ∃ k : Nat, ∃ z : Int, k ≤ n1 ∧ i = .int .i64 k ∧ tt = .int .i64 z ∧ 0 ≤ z ∧ z ≤ 1048576) (fun _ i => n1 - (intOf i).toNat)
      case atStart => exact ⟨0, _, Nat.zero_le _, rfl, rfl, by omega, by omega⟩
      case round =>
        clear hz0 hz1 c2
        obtain ⟨k', z', hk', rfl, rfl, hz0', hz1'⟩ := hrel
        by_cases hlt' : k' < n1
        · have e := ha1 (by omega)
          subst e
          have h1 := hT k' hlt'
          have hsz := ht k'
          clear hs hS ha0 hT ha1 ht
          go_wp2
          case _ => go_ret; exact ⟨isB _, rfl⟩
          case _ => go_ret; exact ⟨isB _, rfl⟩
          go_round
          case rel => exact ⟨k' + 1, _, by omega, by go_num, rfl, by omega, by omega⟩
          case measure => simp [intOf]; omega
        · go_wp2
          all_goals (go_ret; exact ⟨isB _, rfl⟩)

end Go.Proofs.Qxb6608866a
