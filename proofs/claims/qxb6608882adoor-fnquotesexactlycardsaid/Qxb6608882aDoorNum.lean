import Derived.Lib.ItoaMem
import Derived.Lib.ParseIntBTie
namespace Go.Proofs.Qxb6608882aDoor
open Go.Lib

/-- The number that a row of digits spells. -/
def val (l : List UInt8) : Nat := l.foldl (fun a c => a * 10 + (c.toNat - 48)) 0
/-- Digits only. -/
def Digits (l : List UInt8) : Prop := ∀ c ∈ l, 48 ≤ c.toNat ∧ c.toNat ≤ 57

theorem val_nil : val [] = 0 := rfl
theorem val_snoc (l : List UInt8) (c : UInt8) : val (l ++ [c]) = val l * 10 + (c.toNat - 48) := by
  simp [val, List.foldl_append]

theorem foldl_from (l : List UInt8) : ∀ a : Nat, l.foldl (fun a c => a * 10 + (c.toNat - 48)) a = a * 10 ^ l.length + val l := by
  induction l with
  | nil => intro a; simp [val]
  | cons c r ih =>
    intro a
    have e : val (c :: r) = r.foldl (fun a c => a * 10 + (c.toNat - 48)) (0 * 10 + (c.toNat - 48)) := rfl
    rw [List.foldl_cons, ih, e, ih, List.length_cons, Nat.pow_succ, Nat.add_mul, Nat.zero_mul, Nat.zero_add, Nat.mul_comm (10 ^ r.length) 10, ← Nat.mul_assoc]
    omega

theorem val_append (a b : List UInt8) : val (a ++ b) = val a * 10 ^ b.length + val b := by
  unfold val
  rw [List.foldl_append, foldl_from]
  rfl

theorem val_cons (c : UInt8) (r : List UInt8) : val (c :: r) = (c.toNat - 48) * 10 ^ r.length + val r := by
  have := val_append [c] r
  simpa [val] using this

theorem val_lt : ∀ l : List UInt8, Digits l → val l < 10 ^ l.length
  | [], _ => by simp [val]
  | c :: r, h => by
    have h1 := val_lt r (fun x hx => h x (by simp [hx]))
    have h2 := h c (by simp)
    rw [val_cons, List.length_cons, Nat.pow_succ]
    have h3 : (c.toNat - 48) * 10 ^ r.length ≤ 9 * 10 ^ r.length := Nat.mul_le_mul_right _ (by omega)
    omega

theorem digit_nat (d : Nat) (h : d < 10) : (UInt8.ofNat (48 + d)).toNat = 48 + d := by
  rw [UInt8.toNat_ofNat']
  omega

theorem val_dec (u : Nat) : val (decDigits u) = u := by
  induction u using Nat.strongRecOn with
  | ind u ih =>
    rw [decDigits]
    split
    · rename_i h
      simp only [val, List.foldl_cons, List.foldl_nil]
      rw [digit_nat u h]; omega
    · rename_i h
      rw [val_snoc, ih _ (by omega), digit_nat _ (by omega)]
      omega

theorem dec_digits (u : Nat) : Digits (decDigits u) := by
  induction u using Nat.strongRecOn with
  | ind u ih =>
    rw [decDigits]
    split
    · rename_i h
      intro c hc
      simp only [List.mem_singleton] at hc
      subst hc
      rw [digit_nat u h]; omega
    · rename_i h
      intro c hc
      rw [List.mem_append] at hc
      rcases hc with hc | hc
      · exact ih _ (by omega) c hc
      · simp only [List.mem_singleton] at hc
        subst hc
        rw [digit_nat _ (by omega)]; omega

theorem dec_pos (u : Nat) : 1 ≤ (decDigits u).length := by
  rw [decDigits]
  split <;> simp

theorem dec_len (k : Nat) : ∀ u, u < 10 ^ (k + 1) → (decDigits u).length ≤ k + 1 := by
  induction k with
  | zero =>
    intro u h
    rw [decDigits, dif_pos (by simpa using h)]
    simp
  | succ k ih =>
    intro u h
    rw [decDigits]
    split
    · simp
    · have := ih (u / 10) (by rw [Nat.pow_succ] at h; omega)
      simp; omega

/-- No leading nought but in nought itself. -/
theorem dec_head (u : Nat) (hu : u ≠ 0) : ∃ c r, decDigits u = c :: r ∧ 49 ≤ c.toNat := by
  induction u using Nat.strongRecOn with
  | ind u ih =>
    rw [decDigits]
    split
    · rename_i h
      exact ⟨_, _, rfl, by rw [digit_nat u h]; omega⟩
    · rename_i h
      obtain ⟨c, r, hc, h1⟩ := ih (u / 10) (by omega) (by omega)
      exact ⟨c, r ++ [UInt8.ofNat (48 + u % 10)], by rw [hc]; rfl, h1⟩

theorem dec_zero : decDigits 0 = [48] := by
  rw [decDigits, dif_pos (by omega)]
  rfl

theorem digit_back (c : UInt8) (h : 48 ≤ c.toNat ∧ c.toNat ≤ 57) : UInt8.ofNat (48 + (c.toNat - 48)) = c := by
  apply UInt8.toNat_inj.1
  rw [digit_nat _ (by omega)]
  omega

theorem val_pos (c : UInt8) (r : List UInt8) (h : 49 ≤ c.toNat) : 1 ≤ val (c :: r) := by
  rw [val_cons]
  have : 1 * 1 ≤ (c.toNat - 48) * 10 ^ r.length := Nat.mul_le_mul (by omega) (Nat.pow_pos (by omega))
  omega

/-- Digits with no leading nought are the decimal of what they spell. -/
theorem dec_val (c : UInt8) (h0 : 49 ≤ c.toNat) : ∀ n (r : List UInt8), r.length = n → Digits (c :: r) → decDigits (val (c :: r)) = c :: r := by
  intro n
  induction n with
  | zero =>
    intro r hr hd
    have : r = [] := List.eq_nil_of_length_eq_zero hr
    subst this
    have hc := hd c (by simp)
    have e : val [c] = c.toNat - 48 := by simp [val]
    rw [e, decDigits, dif_pos (by omega), digit_back c hc]
  | succ n ih =>
    intro r hr hd
    have hne : r ≠ [] := fun e => by subst e; simp at hr
    obtain ⟨r', c', rfl⟩ : ∃ r' c', r = r' ++ [c'] := ⟨r.dropLast, r.getLast hne, (List.dropLast_concat_getLast hne).symm⟩
    have hc' := hd c' (by simp)
    have e : val (c :: (r' ++ [c'])) = val (c :: r') * 10 + (c'.toNat - 48) := val_snoc (c :: r') c'
    have h1 := val_pos c r' h0
    have hr' : r'.length = n := by simpa using hr
    have e1 : (val (c :: r') * 10 + (c'.toNat - 48)) / 10 = val (c :: r') := by omega
    have e2 : (val (c :: r') * 10 + (c'.toNat - 48)) % 10 = c'.toNat - 48 := by omega
    rw [e, decDigits, dif_neg (by omega), e1, e2, ih r' hr' (fun x hx => hd x (by simp at hx ⊢; rcases hx with h | h <;> simp [h])), digit_back c' hc']
    rfl

/-- The decimal of an int64. -/
def IsInt (l : List UInt8) : Prop := ∃ v : Int, -9223372036854775808 ≤ v ∧ v ≤ 9223372036854775807 ∧ l = itoa v

/-- With its sign. -/
def signed (neg : Bool) (d : List UInt8) : List UInt8 := if neg then 45 :: d else d
def Fits (neg : Bool) (u : Nat) : Prop := if neg then 1 ≤ u ∧ u ≤ 9223372036854775808 else u ≤ 9223372036854775807

theorem isInt_iff (neg : Bool) (d : List UInt8) (hd : neg = false → d.head? ≠ some 45) : IsInt (signed neg d) ↔ ∃ u, Fits neg u ∧ d = decDigits u := by
  cases neg with
  | true =>
    constructor
    · rintro ⟨v, h0, h1, e⟩
      unfold itoa at e
      split at e
      · refine ⟨v.natAbs, ?_, by simpa [signed] using e⟩
        show 1 ≤ _ ∧ _ ≤ _
        omega
      · exfalso
        have := dec_digits v.toNat 45 (by rw [← e]; simp [signed])
        revert this
        decide
    · rintro ⟨u, ⟨h1, h2⟩, rfl⟩
      refine ⟨-(u : Int), by omega, by omega, ?_⟩
      rw [itoa_neg u h1]
      rfl
  | false =>
    constructor
    · rintro ⟨v, h0, h1, e⟩
      unfold itoa at e
      split at e
      · exfalso
        exact hd rfl (by simp only [signed] at e; rw [if_neg (by simp)] at e; rw [e]; rfl)
      · refine ⟨v.toNat, ?_, by simpa [signed] using e⟩
        show _ ≤ _
        omega
    · rintro ⟨u, h1, rfl⟩
      have h1 : u ≤ 9223372036854775807 := h1
      exact ⟨(u : Int), by omega, by omega, by rw [itoa_nonneg]; rfl⟩

theorem fits_lt {neg : Bool} {u : Nat} (h : Fits neg u) : u < 10 ^ 19 := by
  cases neg
  · have h : u ≤ 9223372036854775807 := h
    omega
  · have h : 1 ≤ u ∧ u ≤ 9223372036854775808 := h
    omega

/-- Too few or too many. -/
theorem not_len (neg : Bool) (d : List UInt8) (hd : neg = false → d.head? ≠ some 45) (h : d.length = 0 ∨ 19 < d.length) : ¬ IsInt (signed neg d) := by
  rw [isInt_iff neg d hd]
  rintro ⟨u, hu, rfl⟩
  have := dec_pos u
  have := dec_len 18 u (fits_lt hu)
  omega

/-- A byte that is no digit. -/
theorem not_dig (neg : Bool) (d : List UInt8) (hd : neg = false → d.head? ≠ some 45) (c : UInt8) (hc : c ∈ d) (h : c.toNat < 48 ∨ 57 < c.toNat) : ¬ IsInt (signed neg d) := by
  rw [isInt_iff neg d hd]
  rintro ⟨u, hu, rfl⟩
  have := dec_digits u c hc
  omega

/-- A nought ahead. -/
theorem nought (neg : Bool) (r : List UInt8) : IsInt (signed neg (48 :: r)) ↔ (r = [] ∧ neg = false) := by
  rw [isInt_iff neg _ (fun _ => by simp)]
  constructor
  · rintro ⟨u, hu, e⟩
    by_cases h0 : u = 0
    · subst h0
      rw [dec_zero] at e
      refine ⟨by simpa using e, ?_⟩
      cases neg with
      | false => rfl
      | true => exact absurd hu.1 (by omega)
    · obtain ⟨c, r', h1, h2⟩ := dec_head u h0
      rw [h1] at e
      injection e with e _
      subst e
      exact absurd h2 (by decide)
  · rintro ⟨rfl, rfl⟩
    exact ⟨0, by show 0 ≤ _; omega, dec_zero.symm⟩

/-- No nought ahead: the size decides. -/
theorem sized (neg : Bool) (c : UInt8) (r : List UInt8) (h0 : 49 ≤ c.toNat) (hd : Digits (c :: r)) : IsInt (signed neg (c :: r)) ↔ val (c :: r) ≤ 9223372036854775807 + neg.toNat := by
  rw [isInt_iff neg _ (fun _ => by simp; rintro rfl; exact absurd h0 (by decide))]
  constructor
  · rintro ⟨u, hu, e⟩
    rw [e, val_dec]
    cases neg
    · exact hu
    · exact hu.2
  · intro h
    refine ⟨val (c :: r), ?_, (dec_val c h0 _ r rfl hd).symm⟩
    have := val_pos c r h0
    cases neg
    · exact h
    · exact ⟨this, h⟩

theorem short (neg : Bool) (c : UInt8) (r : List UInt8) (h0 : 49 ≤ c.toNat) (hd : Digits (c :: r)) (hl : (c :: r).length < 19) : IsInt (signed neg (c :: r)) := by
  rw [sized neg c r h0 hd]
  have h1 := val_lt _ hd
  have h2 : (10 : Nat) ^ (c :: r).length ≤ 10 ^ 18 := Nat.pow_le_pow_right (by omega) (by omega)
  omega

/-- The limit's digits. -/
def lim (neg : Bool) : List UInt8 := [57, 50, 50, 51, 51, 55, 50, 48, 51, 54, 56, 53, 52, 55, 55, 53, 56, 48, if neg then 56 else 55]
theorem lim_val (neg : Bool) : val (lim neg) = 9223372036854775807 + neg.toNat := by cases neg <;> rfl
theorem lim_digits (neg : Bool) : Digits (lim neg) := by cases neg <;> (intro c hc; revert c; decide)
theorem lim_len (neg : Bool) : (lim neg).length = 19 := rfl

/-- Two rows of digits of one length: the first difference decides. -/
theorem lex (a : List UInt8) (x y : UInt8) (r r' : List UInt8) (hl : r.length = r'.length) (h1 : Digits (a ++ x :: r)) (h2 : Digits (a ++ y :: r')) (hne : x ≠ y) : val (a ++ x :: r) ≤ val (a ++ y :: r') ↔ x.toNat < y.toNat := by
  have e1 := val_lt r (fun c hc => h1 c (by simp [hc]))
  have e2 := val_lt r' (fun c hc => h2 c (by simp [hc]))
  have d1 := h1 x (by simp)
  have d2 := h2 y (by simp)
  have hne' : x.toNat ≠ y.toNat := fun e => hne (UInt8.toNat_inj.1 e)
  rw [val_append, val_append, val_cons, val_cons, List.length_cons, List.length_cons, ← hl]
  rw [← hl] at e2
  generalize 10 ^ r.length = p at *
  constructor
  · intro h
    apply Nat.lt_of_not_le
    intro hle
    have : (y.toNat - 48 + 1) * p ≤ (x.toNat - 48) * p := Nat.mul_le_mul_right _ (by omega)
    rw [Nat.add_mul] at this
    omega
  · intro h
    have : (x.toNat - 48 + 1) * p ≤ (y.toNat - 48) * p := Nat.mul_le_mul_right _ (by omega)
    rw [Nat.add_mul] at this
    omega

/-- Nineteen digits against the limit: the first difference at i. -/
theorem differ (neg : Bool) (c : UInt8) (r : List UInt8) (h0 : 49 ≤ c.toNat) (hd : Digits (c :: r)) (hl : (c :: r).length = 19) (i : Nat) (hs : ∀ j, j < i → (c :: r)[j]? = (lim neg)[j]?) (x y : UInt8) (hx : (c :: r)[i]? = some x) (hy : (lim neg)[i]? = some y) (hne : x ≠ y) : IsInt (signed neg (c :: r)) ↔ x.toNat < y.toNat := by
  rw [sized neg c r h0 hd, ← lim_val]
  generalize hD : c :: r = D at *
  have t1 : D.take i = (lim neg).take i := by
    apply List.ext_getElem?
    intro j
    rw [List.getElem?_take, List.getElem?_take]
    split
    · exact hs j ‹_›
    · rfl
  have s1 : D = D.take i ++ x :: D.drop (i + 1) := by
    obtain ⟨h, e⟩ := List.getElem?_eq_some_iff.1 hx
    rw [← e, List.getElem_cons_drop, List.take_append_drop]
  have s2 : lim neg = (lim neg).take i ++ y :: (lim neg).drop (i + 1) := by
    obtain ⟨h, e⟩ := List.getElem?_eq_some_iff.1 hy
    rw [← e, List.getElem_cons_drop, List.take_append_drop]
  have d2 := lim_digits neg
  have l2 := lim_len neg
  rw [s1, s2, ← t1]
  refine lex _ _ _ _ _ (by simp [hl, l2]) (by rw [← s1]; exact hd) (by rw [t1, ← s2]; exact d2) hne

theorem same (neg : Bool) (c : UInt8) (r : List UInt8) (h0 : 49 ≤ c.toNat) (hd : Digits (c :: r)) (hl : (c :: r).length = 19) (hs : ∀ j, j < 19 → (c :: r)[j]? = (lim neg)[j]?) : IsInt (signed neg (c :: r)) := by
  rw [sized neg c r h0 hd, ← lim_val]
  have : c :: r = lim neg := by
    apply List.ext_getElem?
    intro j
    by_cases hj : j < 19
    · exact hs j hj
    · rw [List.getElem?_eq_none (by omega), List.getElem?_eq_none (by rw [lim_len]; omega)]
  rw [this]
  exact Nat.le_refl _

/-! The library's reading -/
theorem parse_dec (u : Nat) (hu : u < 18446744073709551616) : ∀ (r a : List UInt8), decDigits u = a ++ r → parseUint10 (val a) r = .ok u
  | [], a, e => by
    rw [List.append_nil] at e
    simp only [parseUint10]
    rw [← e, val_dec]
  | c :: r, a, e => by
    have hc := dec_digits u c (by rw [e]; simp)
    have e' : decDigits u = (a ++ [c]) ++ r := by rw [e]; simp
    have hle : val (a ++ [c]) ≤ u := by
      have := congrArg val e'
      rw [val_dec, val_append] at this
      have h1 : val (a ++ [c]) * 1 ≤ val (a ++ [c]) * 10 ^ r.length := Nat.mul_le_mul_left _ (Nat.pow_pos (by omega))
      omega
    rw [val_snoc] at hle
    simp only [parseUint10]
    rw [if_pos hc, if_neg (by omega), if_neg (by omega), ← val_snoc]
    exact parse_dec u hu r (a ++ [c]) e'

theorem atoi_itoa (v : Int) (h0 : -9223372036854775808 ≤ v) (h1 : v ≤ 9223372036854775807) : atoiAll (itoa v) = .ok v := by
  unfold itoa
  split
  · have hp := parse_dec v.natAbs (by omega) (decDigits v.natAbs) [] rfl
    have hne : decDigits v.natAbs ≠ [] := fun e => by have := dec_pos v.natAbs; rw [e] at this; simp at this
    rw [val_nil] at hp
    simp only [atoiAll]
    rw [if_pos (Or.inr (by decide)), parseMag, if_neg hne, hp]
    have e45 : ((45 : UInt8).toNat = 45) = True := by decide
    simp only [e45]
    rw [if_neg (by simp), if_neg (by omega), if_pos trivial]
    congr 1
    omega
  · have hp := parse_dec v.toNat (by omega) (decDigits v.toNat) [] rfl
    rw [val_nil] at hp
    have hdg := dec_digits v.toNat
    generalize hD : decDigits v.toNat = D at *
    cases D with
    | nil => have := dec_pos v.toNat; rw [hD] at this; simp at this
    | cons c r =>
      have hc := hdg c (by simp)
      simp only [atoiAll]
      rw [if_neg (by omega), parseMag, if_neg (by simp), hp]
      have e45 : (c.toNat = 45) = False := by simp; omega
      simp only [e45]
      rw [if_neg (by omega), if_neg (by simp), if_neg (by simp)]
      congr 1
      omega

/-- What the function 'integer' answers. -/
theorem integer_ok {l : List UInt8} {v : Int} (h : parseIntB 64 l = .ok v) : IsInt l ↔ itoa v = l := by
  have hb := parseIntB_bounds h
  rw [parseIntB_64] at h
  constructor
  · rintro ⟨u, h0, h1, rfl⟩
    rw [atoi_itoa u h0 h1] at h
    injection h with h
    rw [h]
  · intro e
    refine ⟨v, ?_, ?_, e.symm⟩
    · have := hb.1; simp at this; omega
    · have := hb.2; simp at this; omega

theorem integer_not {l : List UInt8} (h : ∀ v, parseIntB 64 l ≠ .ok v) : ¬ IsInt l := by
  rintro ⟨u, h0, h1, rfl⟩
  exact h u (by rw [parseIntB_64]; exact atoi_itoa u h0 h1)

end Go.Proofs.Qxb6608882aDoor
