import Derived.Test.Qxb6608830aDoorProg
import Derived.Test.Qxb6608830aDoorNum
import Derived.WalkKit
import Derived.WalkSpells
import Derived.WalkLawsBesides
import Derived.Below
import Derived.OpenShut
import Derived.Handy
namespace Go.Proofs.Qxb6608830aDoor
open Go.RowKit
set_option maxRecDepth 100000
set_option maxHeartbeats 1000000

/-- readsBackAs at a numeral without a sign. -/
theorem reads_pos (s : ByteArray) (u : Nat) (pv : Nat → Nat) (w : World) (hu : u ≤ 9223372036854775807) (H : Spelt s 0 u pv) (h0 : ∀ h : 0 < s.size, s[0].toNat = 48 → s.size = 1) :
    Calls Tryd.prog 10 #[.string s, .int .i64 u] w fun e w' => e = .returned (.bool true) ∧ w = w' := by
  have hlo := H.lo
  have hhi := H.hi
  have hd0 := H.dig 0 hlo (Nat.le_refl _)
  have n45 : (((s[0].toNat : Nat) : Int) == 45) = false := by simp; omega
  have q0 : ((0 : Int) == (s.size : Int)) = false := by simp; omega
  have q19 : ¬ (19 : Int) < (s.size : Int) := by omega
  by_cases hz : s[0].toNat = 48
  · have n48 : (((s[0].toNat : Nat) : Int) == 48) = true := by simp; omega
    have qq : ¬ (1 : Int) < (s.size : Int) := by have := h0 hlo hz; omega
    go_enter Tryd.func10, Tryd.ntmps10
    go_wp2
    go_loop [5, 7] (fun i t => ∃ k : Nat, k ≤ s.size ∧ i = .int .i64 k ∧ t = .int .i64 (pv k)) (fun i _ => s.size - (intOf i).toNat)
    case atStart => exact ⟨0, Nat.zero_le _, rfl, by rw [H.start]; rfl⟩
    case round =>
      obtain ⟨k, hk, rfl, rfl⟩ := hrel
      by_cases hlt : k < s.size
      · have hd := H.dig k hlt (Nat.zero_le _)
        have hst := H.step k hlt (Nat.zero_le _)
        have hle := H.le (k + 1) hlt
        clear n45 n48 q0 q19 hd0 h0 hz qq
        have b1 : (48 : Int) ≤ ((s[k].toNat : Nat) : Int) := by omega
        have b2 : ((s[k].toNat : Nat) : Int) ≤ 57 := by omega
        have b3 : (pv k : Int) * 10 + (((s[k].toNat : Nat) : Int) - 48) = (pv (k + 1) : Int) := by omega
        have b4 : (pv (k + 1) : Int) ≤ 9223372036854775807 := by omega
        have b5 : ¬ (9223372036854775807 - (((s[k].toNat : Nat) : Int) - 48)) / 10 < (pv k : Int) := by omega
        have HS : Hid ((pv k : Int) * 10 + (((s[k].toNat : Nat) : Int) - 48) = (pv (k + 1) : Int)) := b3
        clear b3 hst hd
        go_wp2
        go_round
        case rel => exact ⟨k + 1, by omega, by go_num, by rw [HS.out]⟩
        case measure => simp [intOf]; omega
      · have e : k = s.size := by omega
        have HD : Hid (((pv k : Nat) : Int) = (u : Int)) := by rw [e, H.done]; rfl
        clear e
        go_wp2
        go_ret
        exact ⟨by rw [HD.out]; simp, rfl⟩
  · have n48 : (((s[0].toNat : Nat) : Int) == 48) = false := by simp; omega
    have qq : True := trivial
    go_enter Tryd.func10, Tryd.ntmps10
    go_wp2
    go_loop [5, 7] (fun i t => ∃ k : Nat, k ≤ s.size ∧ i = .int .i64 k ∧ t = .int .i64 (pv k)) (fun i _ => s.size - (intOf i).toNat)
    case atStart => exact ⟨0, Nat.zero_le _, rfl, by rw [H.start]; rfl⟩
    case round =>
      obtain ⟨k, hk, rfl, rfl⟩ := hrel
      by_cases hlt : k < s.size
      · have hd := H.dig k hlt (Nat.zero_le _)
        have hst := H.step k hlt (Nat.zero_le _)
        have hle := H.le (k + 1) hlt
        clear n45 n48 q0 q19 hd0 h0 hz qq
        have b1 : (48 : Int) ≤ ((s[k].toNat : Nat) : Int) := by omega
        have b2 : ((s[k].toNat : Nat) : Int) ≤ 57 := by omega
        have b3 : (pv k : Int) * 10 + (((s[k].toNat : Nat) : Int) - 48) = (pv (k + 1) : Int) := by omega
        have b4 : (pv (k + 1) : Int) ≤ 9223372036854775807 := by omega
        have b5 : ¬ (9223372036854775807 - (((s[k].toNat : Nat) : Int) - 48)) / 10 < (pv k : Int) := by omega
        have HS : Hid ((pv k : Int) * 10 + (((s[k].toNat : Nat) : Int) - 48) = (pv (k + 1) : Int)) := b3
        clear b3 hst hd
        go_wp2
        go_round
        case rel => exact ⟨k + 1, by omega, by go_num, by rw [HS.out]⟩
        case measure => simp [intOf]; omega
      · have e : k = s.size := by omega
        have HD : Hid (((pv k : Nat) : Int) = (u : Int)) := by rw [e, H.done]; rfl
        clear e
        go_wp2
        go_ret
        exact ⟨by rw [HD.out]; simp, rfl⟩

theorem tdiv_le (a d : Int) (h : a * 10 + d ≤ 9223372036854775808) (h1 : 0 ≤ d) (h2 : d ≤ 9) : (-9223372036854775808 + d).tdiv 10 ≤ -a := by
  have e : (-9223372036854775808 + d) = -(9223372036854775808 - d) := by omega
  rw [e, Int.neg_tdiv, Int.tdiv_eq_ediv_of_nonneg (by omega)]
  omega

theorem wrap_neg (a b d : Int) (h : -a * 10 - d = -b) (h1 : 0 ≤ a) (h2 : b ≤ 9223372036854775808) (h3 : 0 ≤ d) : wrap64 (wrap64 (-a * 10) - d) = -b := by
  unfold wrap64
  omega

/-- readsBackAs at a numeral with a sign. -/
theorem reads_neg (s : ByteArray) (u : Nat) (pv : Nat → Nat) (w : World) (hu : u ≤ 9223372036854775808) (H : Spelt s 1 u pv) (hs0 : ∀ h : 0 < s.size, s[0].toNat = 45) (hs1 : ∀ h : 1 < s.size, 49 ≤ s[1].toNat) :
    Calls Tryd.prog 10 #[.string s, .int .i64 (-(u : Int))] w fun e w' => e = .returned (.bool true) ∧ w = w' := by
  have hlo := H.lo
  have hhi := H.hi
  have hpos : 0 < s.size := by omega
  have n45 : (((s[0].toNat : Nat) : Int) == 45) = true := by simp [hs0 hpos]
  have n48 : (((s[1].toNat : Nat) : Int) == 48) = false := by have := hs1 hlo; simp; omega
  have q0 : ((1 : Int) == (s.size : Int)) = false := by simp; omega
  have q19 : ¬ (19 : Int) < (s.size : Int) - 1 := by omega
  have hsz2 : (1 : Int) < (s.size : Int) := by omega
  go_enter Tryd.func10, Tryd.ntmps10
  go_wp2
  go_loop [5, 7] (fun i t => ∃ k : Nat, 1 ≤ k ∧ k ≤ s.size ∧ i = .int .i64 k ∧ t = .int .i64 (-(pv k : Int))) (fun i _ => s.size - (intOf i).toNat)
  case atStart => exact ⟨1, Nat.le_refl _, by omega, rfl, by rw [H.start]; rfl⟩
  case round =>
    obtain ⟨k, hk1, hk, rfl, rfl⟩ := hrel
    by_cases hlt : k < s.size
    · have hd := H.dig k hlt hk1
      have hst := H.step k hlt hk1
      have hle := H.le (k + 1) hlt
      clear n45 n48 q0 q19 hs0 hs1
      have b1 : (48 : Int) ≤ ((s[k].toNat : Nat) : Int) := by omega
      have b2 : ((s[k].toNat : Nat) : Int) ≤ 57 := by omega
      have b3 : -(pv k : Int) * 10 - (((s[k].toNat : Nat) : Int) - 48) = -(pv (k + 1) : Int) := by omega
      have b4 : (pv (k + 1) : Int) ≤ 9223372036854775808 := by omega
      have b5 : ¬ -(pv k : Int) < (-9223372036854775808 + (((s[k].toNat : Nat) : Int) - 48)).tdiv 10 := by
        have := tdiv_le (pv k) (((s[k].toNat : Nat) : Int) - 48) (by omega) (by omega) (by omega)
        omega
      have HS : Hid (wrap64 (wrap64 (-(pv k : Int) * 10) - (((s[k].toNat : Nat) : Int) - 48)) = -(pv (k + 1) : Int)) := wrap_neg _ _ _ b3 (by omega) b4 (by omega)
      clear b3 hst hd
      go_wp2
      go_round
      case rel => exact ⟨k + 1, by omega, by omega, by go_num, by rw [HS.out]⟩
      case measure => simp [intOf]; omega
    · have e : k = s.size := by omega
      have HD : Hid (((pv k : Nat) : Int) = (u : Int)) := by rw [e, H.done]; rfl
      clear e
      go_wp2
      go_ret
      exact ⟨by rw [HD.out]; simp, rfl⟩

/-- The numeral of an int64, read back. -/
theorem reads_itoa (n : Int) (h0 : -9223372036854775808 ≤ n) (h1 : n ≤ 9223372036854775807) (w : World) :
    Calls Tryd.prog 10 #[.string ⟨(Lib.itoa n).toArray⟩, .int .i64 n] w fun e w' => e = .returned (.bool true) ∧ w = w' := by
  by_cases hn : n < 0
  · obtain ⟨u, rfl⟩ : ∃ u : Nat, n = -(u : Int) := ⟨n.natAbs, by omega⟩
    have hu0 : u ≠ 0 := by omega
    have he : Lib.itoa (-(u : Int)) = [45] ++ Lib.decDigits u := by
      unfold Lib.itoa
      rw [if_pos hn]
      simp
    rw [he]
    have H := spelt_of ⟨([45] ++ Lib.decDigits u).toArray⟩ [45] u (by simp) (by have : u ≤ 9223372036854775808 := by omega
                                                                                omega)
    refine reads_neg _ u _ w (by omega) H (fun h => rfl) (fun h => ?_)
    obtain ⟨c, r, hc, h49⟩ := dec_head u hu0
    have : (⟨([45] ++ Lib.decDigits u).toArray⟩ : ByteArray)[1] = c := by
      simp [ByteArray.getElem_eq_getElem_data, hc]
    rw [this]
    exact h49
  · obtain ⟨u, rfl⟩ : ∃ u : Nat, n = (u : Int) := ⟨n.toNat, by omega⟩
    have he : Lib.itoa (u : Int) = [] ++ Lib.decDigits u := by
      unfold Lib.itoa
      rw [if_neg hn]
      simp
    rw [he]
    have H := spelt_of ⟨([] ++ Lib.decDigits u).toArray⟩ [] u (by simp) (by omega)
    refine reads_pos _ u _ w (by omega) H (fun h h48 => ?_)
    by_cases hu0 : u = 0
    · subst hu0
      simp [dec_zero, ByteArray.size]
    · obtain ⟨c, r, hc, h49⟩ := dec_head u hu0
      have : (⟨([] ++ Lib.decDigits u).toArray⟩ : ByteArray)[0] = c := by
        simp [ByteArray.getElem_eq_getElem_data, hc]
      rw [this] at h48
      omega

end Go.Proofs.Qxb6608830aDoor
