import Derived.Laws.FloatArith
namespace Go.Proofs.Qxb6608792a

theorem cut_zero (m : Nat) : Ieee.Toward.even.cut false m 0 = m := by
  simp [Ieee.Toward.cut, Nat.mod_one]

theorem hlp : Ieee.double.leastPlace = -1074 := by simp [Ieee.Format.leastPlace, Ieee.double]
theorem hbin : Ieee.double.binade = 2 ^ 52 := by simp [Ieee.Format.binade, Ieee.double]
theorem hinf : Ieee.double.infRung = 2047 * 2 ^ 52 := by simp [Ieee.Format.infRung, Ieee.Format.binade, Ieee.double]
theorem hfb : Ieee.double.fractionBits = 52 := rfl
theorem nearest_val (n : Nat) (hn0 : n ≠ 0) (hL : n.log2 ≤ 16) : Ieee.double.nearest false n 0 = min ((n.log2 + 1022) * 2 ^ 52 + n <<< (52 - n.log2)) (2047 * 2 ^ 52) := by
  have hlast : max ((0 : Int) + (n.log2 : Int) - ((52 : Nat) : Int)) (-1074) = (n.log2 : Int) - 52 := by omega
  have e1 : ((0 : Int) - ((n.log2 : Int) - 52)).toNat = 52 - n.log2 := by omega
  have e2 : (((n.log2 : Int) - 52) - 0).toNat = 0 := by omega
  have e3 : (((n.log2 : Int) - 52) - (-1074)).toNat = n.log2 + 1022 := by omega
  unfold Ieee.Format.nearest
  rw [if_neg hn0]
  simp only [hlp, hfb, hbin, hinf]
  simp only [hlast]
  simp only [e1, e2, e3]
  simp only [cut_zero, Ieee.Format.word]
  simp

/-- float64(n), n from 1 to 65536: an ordinary number. -/
theorem nearest_bounds (n : Nat) (h1 : 1 ≤ n) (h2 : n ≤ 65536) :
    2 ^ 52 ≤ Ieee.double.nearest false n 0 ∧ Ieee.double.nearest false n 0 < 2047 * 2 ^ 52 := by
  have hlo : 2 ^ n.log2 ≤ n := Nat.log2_self_le (by omega)
  have hhi : n < 2 ^ (n.log2 + 1) := Nat.lt_log2_self
  have hL : n.log2 ≤ 16 := by
    have : n.log2 < 17 := (Nat.log2_lt (by omega)).2 (by omega)
    omega
  have hn0 : n ≠ 0 := by omega
  have hval := nearest_val n hn0 hL
  rw [hval]
  have hsh : n <<< (52 - n.log2) = n * 2 ^ (52 - n.log2) := Nat.shiftLeft_eq _ _
  rw [hsh]
  have hpow : 2 ^ n.log2 * 2 ^ (52 - n.log2) = 2 ^ 52 := by rw [← Nat.pow_add, show n.log2 + (52 - n.log2) = 52 by omega]
  have ha : 2 ^ 52 ≤ n * 2 ^ (52 - n.log2) := by rw [← hpow]; exact Nat.mul_le_mul_right _ hlo
  have hb : n * 2 ^ (52 - n.log2) ≤ 2 ^ 53 := by
    have h3 : n * 2 ^ (52 - n.log2) ≤ 2 ^ (n.log2 + 1) * 2 ^ (52 - n.log2) := Nat.mul_le_mul_right _ (by omega)
    have h4 : 2 ^ (n.log2 + 1) * 2 ^ (52 - n.log2) = 2 ^ 53 := by rw [← Nat.pow_add, show n.log2 + 1 + (52 - n.log2) = 53 by omega]
    omega
  omega

theorem read_ordinary (x : Nat) (h1 : 2 ^ 52 ≤ x) (h2 : x < 2047 * 2 ^ 52) : ∃ m e, Ieee.double.read x = .number false m e ∧ 0 < m := by
  have hsw : Ieee.double.signWeight = 2 ^ 63 := by simp [Ieee.Format.signWeight, Ieee.double]
  have hd : x / 2 ^ 63 % 2 = 0 := by omega
  have hm : x % 2 ^ 63 = x := by omega
  unfold Ieee.Format.read
  simp only [hsw, hbin, hinf, hd, hm]
  rw [if_neg (by omega), if_pos h2]
  exact ⟨_, _, rfl, by omega⟩

theorem quotient_self (m : Nat) (e : Int) (hm : 0 < m) (d : Nat) : Ieee.Datum.quotient d (.number false m e) (.number false m e) = some (.number false (2 * 2 ^ d) (-(d : Int) - 1)) := by
  have h0 : m ≠ 0 := by omega
  have hmore : d + m.log2 - m.log2 = d := by omega
  have hdv : m * 2 ^ d / m = 2 ^ d := by rw [Nat.mul_div_cancel_left _ hm]
  have hmd : m * 2 ^ d % m = 0 := Nat.mul_mod_right _ _
  simp only [Ieee.Datum.quotient, if_neg h0, hmore, Nat.shiftLeft_eq, hdv, hmd]
  simp

/-- A number from 1 to 65536 by itself, as float64s: 1. -/
theorem div_self_one (n : Nat) (h1 : 1 ≤ n) (h2 : n ≤ 65536) : floatBits .quo .f64 (floatOfInt .f64 n) (floatOfInt .f64 n) = some 4607182418800017408 := by
  obtain ⟨b1, b2⟩ := nearest_bounds n h1 h2
  obtain ⟨m, e, hr, hm⟩ := read_ordinary _ b1 b2
  have hf : floatOfInt .f64 (n : Int) = Ieee.double.nearest false n 0 := by
    show Ieee.double.write (.number (decide ((n : Int) < 0)) (n : Int).natAbs 0) = _
    have : decide ((n : Int) < 0) = false := decide_eq_false (by omega)
    rw [this]
    simp [Ieee.Format.write]
  show Ieee.double.div _ _ = _
  rw [hf]
  unfold Ieee.Format.div
  rw [hr, quotient_self m e hm]
  decide

theorem one_is_one : (Ieee.double.order 4607182418800017408 4607182418800017408 == some .eq) = true := by decide
theorem nought_is_nought : (Ieee.double.order 0 0 == some .eq) = true := by decide

end Go.Proofs.Qxb6608792a
