import Derived.Lib.ItoaNum
namespace Go.Proofs.Qxb6608830aDoor
open Go.Lib

/-- The number that a row of digits spells. -/
def val (l : List UInt8) : Nat := l.foldl (fun a c => a * 10 + (c.toNat - 48)) 0

theorem val_snoc (l : List UInt8) (c : UInt8) : val (l ++ [c]) = val l * 10 + (c.toNat - 48) := by
  simp [val, List.foldl_append]

theorem foldl_ge (l : List UInt8) : ∀ a : Nat, a ≤ l.foldl (fun a c => a * 10 + (c.toNat - 48)) a := by
  induction l with
  | nil => intro a; exact Nat.le_refl _
  | cons c r ih => intro a; exact Nat.le_trans (show a ≤ a * 10 + (c.toNat - 48) by omega) (ih _)

theorem val_prefix (a b : List UInt8) : val a ≤ val (a ++ b) := by
  unfold val
  rw [List.foldl_append]
  exact foldl_ge b _

theorem digit_nat (d : Nat) (h : d < 10) : (UInt8.ofNat (48 + d)).toNat = 48 + d := by
  rw [UInt8.toNat_ofNat']
  omega

theorem val_dec (u : Nat) : val (decDigits u) = u := by
  induction u using Nat.strongRecOn with
  | ind u ih =>
    rw [decDigits]
    split
    · rename_i h
      simp only [val, List.foldl_cons, List.foldl_nil]
      rw [digit_nat u h]; omega
    · rename_i h
      rw [val_snoc, ih _ (by omega), digit_nat _ (by omega)]
      omega

theorem dec_digits (u : Nat) : ∀ c ∈ decDigits u, 48 ≤ c.toNat ∧ c.toNat ≤ 57 := by
  induction u using Nat.strongRecOn with
  | ind u ih =>
    rw [decDigits]
    split
    · rename_i h
      intro c hc
      simp only [List.mem_singleton] at hc
      subst hc
      rw [digit_nat u h]; omega
    · rename_i h
      intro c hc
      rw [List.mem_append] at hc
      rcases hc with hc | hc
      · exact ih _ (by omega) c hc
      · simp only [List.mem_singleton] at hc
        subst hc
        rw [digit_nat _ (by omega)]; omega

theorem dec_pos (u : Nat) : 1 ≤ (decDigits u).length := by
  rw [decDigits]
  split <;> simp

theorem dec_len (k : Nat) : ∀ u, u < 10 ^ (k + 1) → (decDigits u).length ≤ k + 1 := by
  induction k with
  | zero =>
    intro u h
    rw [decDigits, dif_pos (by simpa using h)]
    simp
  | succ k ih =>
    intro u h
    rw [decDigits]
    split
    · simp
    · have := ih (u / 10) (by rw [Nat.pow_succ] at h; omega)
      simp; omega

/-- No leading nought but in nought itself. -/
theorem dec_head (u : Nat) (hu : u ≠ 0) : ∃ c r, decDigits u = c :: r ∧ 49 ≤ c.toNat := by
  induction u using Nat.strongRecOn with
  | ind u ih =>
    rw [decDigits]
    split
    · rename_i h
      exact ⟨_, _, rfl, by rw [digit_nat u h]; omega⟩
    · rename_i h
      obtain ⟨c, r, hc, h1⟩ := ih (u / 10) (by omega) (by omega)
      exact ⟨c, r ++ [UInt8.ofNat (48 + u % 10)], by rw [hc]; rfl, h1⟩

theorem dec_zero : decDigits 0 = [48] := by
  rw [decDigits, dif_pos (by omega)]
  rfl

/-- A string of digits as the walk meets it: byte by byte, with the number that is spelt so far. -/
structure Spelt (s : ByteArray) (i0 : Nat) (u : Nat) (pv : Nat → Nat) : Prop where
  lo : i0 < s.size
  hi : s.size ≤ i0 + 19
  dig : ∀ k (h : k < s.size), i0 ≤ k → 48 ≤ s[k].toNat ∧ s[k].toNat ≤ 57
  start : pv i0 = 0
  step : ∀ k (h : k < s.size), i0 ≤ k → pv (k + 1) = pv k * 10 + (s[k].toNat - 48)
  le : ∀ k, k ≤ s.size → pv k ≤ u
  done : pv s.size = u

theorem spelt_of (s : ByteArray) (p : List UInt8) (u : Nat) (hs : s.data.toList = p ++ decDigits u) (hu : u < 10 ^ 19) :
    Spelt s p.length u (fun k => val ((decDigits u).take (k - p.length))) := by
  have hsz : s.size = p.length + (decDigits u).length := by
    have := congrArg List.length hs
    simpa using this
  have hget : ∀ k (h : k < s.size), p.length ≤ k → ∃ h2 : k - p.length < (decDigits u).length, s[k] = (decDigits u)[k - p.length] := by
    intro k h hk
    refine ⟨by omega, ?_⟩
    have h1 : s.data.toList[k]'(by simpa using h) = (p ++ decDigits u)[k]'(by simp; omega) := by simp only [hs]
    rw [List.getElem_append_right hk] at h1
    exact h1
  refine ⟨by have := dec_pos u; omega, by have := dec_len 18 u hu; omega, ?_, ?_, ?_, ?_, ?_⟩
  · intro k h hk
    obtain ⟨h2, e⟩ := hget k h hk
    rw [e]
    exact dec_digits u _ (List.getElem_mem h2)
  · simp [val]
  · intro k h hk
    obtain ⟨h2, e⟩ := hget k h hk
    rw [e]
    have e1 : k + 1 - p.length = (k - p.length) + 1 := by omega
    simp only [e1]
    rw [List.take_succ_eq_append_getElem h2, val_snoc]
  · intro k hk
    have := val_prefix ((decDigits u).take (k - p.length)) ((decDigits u).drop (k - p.length))
    rw [List.take_append_drop, val_dec] at this
    exact this
  · show val ((decDigits u).take (s.size - p.length)) = u
    rw [List.take_of_length_le (by omega), val_dec]

end Go.Proofs.Qxb6608830aDoor
