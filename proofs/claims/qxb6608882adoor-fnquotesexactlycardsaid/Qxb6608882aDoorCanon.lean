import Derived.Test.Qxb6608882aDoorProg
import Derived.Test.Qxb6608882aDoorNum
import Derived.WalkKit
import Derived.WalkSpells
import Derived.WalkLawsBesides
import Derived.Below
import Derived.OpenShut
import Derived.Handy
import Derived.Deep.LoopGhost
import Derived.Lib.Hide
import Derived.Deep.QuietTactic
import Derived.BigQuiet
import Derived.BigRegion
namespace Go.Proofs.Qxb6608882aDoor
open Go.RowKit
set_option maxRecDepth 100000
set_option maxHeartbeats 1000000

/-- The answer that is asked of zzCanonInt64. -/
def Says (l : List UInt8) (w : World) (e : Ending) (w' : World) : Prop := (∃ b, e = .returned (.bool b) ∧ (b = true ↔ IsInt l)) ∧ Below w.heap.size w w'

theorem says_true {l : List UInt8} {w w' : World} (h : IsInt l) (hb : Below w.heap.size w w') : Says l w (.returned (.bool true)) w' := ⟨⟨true, rfl, by simp [h]⟩, hb⟩
theorem says_false {l : List UInt8} {w w' : World} (h : ¬ IsInt l) (hb : Below w.heap.size w w') : Says l w (.returned (.bool false)) w' := ⟨⟨false, rfl, by simp [h]⟩, hb⟩

theorem get_list (d : ByteArray) (k : Nat) (h : k < d.size) : d.data.toList[k]? = some d[k] := by
  rw [List.getElem?_eq_getElem (by simpa using h)]
  rfl

theorem list_len (d : ByteArray) : d.data.toList.length = d.size := by simp

theorem digits_of (d : ByteArray) (h : ∀ k (h : k < d.size), 48 ≤ d[k].toNat ∧ d[k].toNat ≤ 57) : Digits d.data.toList := by
  intro c hc
  obtain ⟨k, hk, e⟩ := List.getElem_of_mem hc
  have := h k (by simpa using hk)
  rw [← e]
  exact this

theorem mem_of (d : ByteArray) (k : Nat) (h : k < d.size) : d[k] ∈ d.data.toList := List.mem_of_getElem? (get_list d k h)

theorem cons_of (d : ByteArray) (h : 0 < d.size) : ∃ r, d.data.toList = d[0] :: r ∧ r.length + 1 = d.size := by
  have h1 := get_list d 0 h
  have h2 := list_len d
  cases hd : d.data.toList with
  | nil => rw [hd] at h1; cases h1
  | cons c r =>
    rw [hd] at h1 h2
    simp at h1
    subst h1
    exact ⟨r, rfl, by simpa using h2⟩

theorem slice_one (s : ByteArray) (hpos : 0 < s.size) (h0 : s[0].toNat = 45) :
    ∃ d : ByteArray, (∀ W, (Instr.slice 9 (.string s) (some (.int .i64 1)) none none).run Tryd.prog W = .ok (.string d) W) ∧ s.data.toList = 45 :: d.data.toList ∧ d.size + 1 = s.size := by
  obtain ⟨r, hr, hl⟩ := cons_of s hpos
  have e45 : s[0] = 45 := UInt8.toNat_inj.1 h0
  refine ⟨s.extract 1 s.size, fun W => ?_, ?_, ?_⟩
  · rw [run_slice_string_from_if W 9 s .i64 1 Tryd.underlying9, if_pos (by omega)]
    rfl
  · have e : (s.extract 1 s.size).data.toList = s.data.toList.drop 1 := by
      have hs := list_len s
      rw [ByteArray.data_extract]
      simp
      rw [List.take_of_length_le (by simp)]
    rw [e, hr, e45]
    rfl
  · simp
    omega

/-- No sign is left. -/
def Head (neg : Bool) (l : List UInt8) : Prop := neg = false → l.head? ≠ some 45

/-- The limit as the text writes it. -/
def limB (neg : Bool) : ByteArray := ⟨#[57, 50, 50, 51, 51, 55, 50, 48, 51, 54, 56, 53, 52, 55, 55, 53, 56, 48, if neg then 56 else 55]⟩
theorem limB_lim (neg : Bool) : (limB neg).data.toList = lim neg := rfl
theorem limB_size (neg : Bool) : (limB neg).size = 19 := rfl

theorem canon_neg (s d : ByteArray) (w : World) (hs0 : 0 < s.size) (h0 : s[0].toNat = 45)
    (hsl : ∀ W, (Instr.slice 9 (.string s) (some (.int .i64 1)) none none).run Tryd.prog W = .ok (.string d) W) (hsig : Hid (s.data.toList = signed true d.data.toList)) :
    Calls Tryd.prog 9 #[.string s] w (Says s.data.toList w) := by
  have n45 : (((s[0].toNat : Nat) : Int) == 45) = true := by simp; omega
  have t0 : (0 : Int) < (s.size : Int) := by omega
  have hd0 : Head true d.data.toList := fun h => by cases h
  have hlen := list_len d
  by_cases hz : d.size = 0 ∨ 19 < d.size
  case pos =>
    have hno := not_len true d.data.toList hd0 (by omega)
    go_enter Tryd.func9, Tryd.ntmps9
    rcases hz with hz | hz
    · have q0 : ((d.size : Int) == 0) = true := beq_iff_eq.2 (by omega)
      go_wp2
      go_ret
      exact says_false (hsig.out ▸ hno) (Below.refl _ _)
    · have q0 : ((d.size : Int) == 0) = false := beq_false_of_ne (by omega)
      have q19 : (19 : Int) < (d.size : Int) := by omega
      go_wp2
      go_ret
      exact says_false (hsig.out ▸ hno) (Below.refl _ _)
  have hpos : 0 < d.size := by omega
  have hle : d.size ≤ 19 := by omega
  have q0 : ((d.size : Int) == 0) = false := beq_false_of_ne (by omega)
  have q19 : ¬ (19 : Int) < (d.size : Int) := by omega
  clear hlen
  go_enter Tryd.func9, Tryd.ntmps9
  go_wp2
  go_loop [5] (fun i => ∃ k : Nat, k ≤ d.size ∧ i = .int .i64 k ∧ Hid (∀ j (h : j < d.size), j < k → 48 ≤ d[j].toNat ∧ d[j].toNat ≤ 57)) (fun i => d.size - (intOf i).toNat)
  case atStart => exact ⟨0, Nat.zero_le _, rfl, fun j _ h => absurd h (Nat.not_lt_zero _)⟩
  case round =>
    obtain ⟨k, hk, rfl, hdig⟩ := hrel
    by_cases hlt : k < d.size
    · have tk : (k : Int) < (d.size : Int) := by omega
      by_cases hlo : d[k].toNat < 48
      · have hno := not_dig true d.data.toList hd0 _ (mem_of d k hlt) (Or.inl hlo)
        have b1 : ((d[k].toNat : Nat) : Int) < 48 := by omega
        go_wp2
        go_ret
        exact says_false (hsig.out ▸ hno) (Below.refl _ _)
      by_cases hhi : 57 < d[k].toNat
      · have hno := not_dig true d.data.toList hd0 _ (mem_of d k hlt) (Or.inr hhi)
        have b1 : ¬ ((d[k].toNat : Nat) : Int) < 48 := by omega
        have b2 : (57 : Int) < ((d[k].toNat : Nat) : Int) := by omega
        go_wp2
        go_ret
        exact says_false (hsig.out ▸ hno) (Below.refl _ _)
      have b1 : ¬ ((d[k].toNat : Nat) : Int) < 48 := by omega
      have b2 : ¬ (57 : Int) < ((d[k].toNat : Nat) : Int) := by omega
      have hdig' : Hid (∀ j (h : j < d.size), j < k + 1 → 48 ≤ d[j].toNat ∧ d[j].toNat ≤ 57) := fun j h hj => by
        by_cases e : j = k
        · subst e; omega
        · exact hdig.out j h (by omega)
      go_wp2
      go_round
      case rel => exact ⟨k + 1, by omega, by go_num, hdig'⟩
      case measure => simp [intOf]; omega
    · have tk : ¬ (k : Int) < (d.size : Int) := by omega
      have hdg : Digits d.data.toList := digits_of d (fun j h => hdig.out j h (by omega))
      clear hdig
      obtain ⟨r, hr1, hrl⟩ := cons_of d hpos
      have hr := Lib.hid hr1
      clear hr1
      by_cases hz : d[0].toNat = 48
      · have z0 : ((d[0].toNat : Int) == 48) = true := beq_iff_eq.2 (by omega)
        have hn1 : IsInt (signed true d.data.toList) ↔ (r = [] ∧ true = false) := by
          rw [hr.out, show d[0] = 48 from UInt8.toNat_inj.1 hz]
          exact nought true r
        have hn := Lib.hid hn1
        clear hn1
        by_cases h1 : r.length = 0
        · have z1 : ((d.size : Int) == 1) = true := beq_iff_eq.2 (by omega)
          have hr0 := Lib.hid (List.eq_nil_of_length_eq_zero h1)
          clear h1
          go_wp2
          go_ret
          exact says_false (by rw [hsig.out, hn.out]; simp [hr0.out]) (Below.refl _ _)
        · have z1 : ((d.size : Int) == 1) = false := beq_false_of_ne (by omega)
          go_wp2
          go_ret
          exact says_false (by rw [hsig.out, hn.out]; rintro ⟨e, _⟩; rw [e] at h1; exact h1 rfl) (Below.refl _ _)
      have z0 : ((d[0].toNat : Int) == 48) = false := beq_false_of_ne (by omega)
      have hdg' : Digits (d[0] :: r) := hr.out ▸ hdg
      have h49 : 49 ≤ d[0].toNat := by have := hdg d[0] (mem_of d 0 hpos); omega
      by_cases h19 : d.size < 19
      · have z1 : (d.size : Int) < 19 := by omega
        have hyes := short true d[0] r h49 hdg' (by simp; omega)
        go_wp2
        go_ret
        exact says_true (by rw [hsig.out, hr.out]; exact hyes) (Below.refl _ _)
      have z1 : ¬ (d.size : Int) < 19 := by omega
      have hl19 : (d[0] :: r).length = 19 := by simp; omega
      have hl19' := Lib.hid hl19
      clear hl19
      go_wp2
      generalize hL : (ByteArray.mk #[57, 50, 50, 51, 51, 55, 50, 48, 51, 54, 56, 53, 52, 55, 55, 53, 56, 48, 56]) = L
      have hL1 : L = limB true := hL.symm
      have hx : ∀ j (h : j < L.size), (lim true)[j]? = some L[j] := fun j h => by subst hL1; exact get_list _ _ h
      have hLs : 19 ≤ L.size := by rw [hL1]; exact Nat.le_of_eq (limB_size true).symm
      clear hL hL1
      go_loopg [7] 19 (fun g i wr => ∃ k n : Nat, g = 19 - k ∧ k ≤ 19 ∧ i = .int .i64 k ∧ wr = w.drewN n ∧ Hid (∀ j, j < k → (d[0] :: r)[j]? = (lim true)[j]?))
      case atStart => exact ⟨0, 0, rfl, Nat.zero_le _, rfl, rfl, fun j h => absurd h (Nat.not_lt_zero _)⟩
      case round =>
        obtain ⟨k, n, rfl, hk19, rfl, rfl, hsame⟩ := hrel
        by_cases hlt : k < 19
        · have tk2 : (k : Int) < 19 := by omega
          have hkd : k < d.size := by omega
          have hkL : k < L.size := by omega
          have gd : (d[0] :: r)[k]? = some d[k] := by rw [← hr.out]; exact get_list d k hkd
          have gL := hx k hkL
          have i1 : (k : Int) < (d.size : Int) := by omega
          have i2 : (k : Int) < (L.size : Int) := by omega
          by_cases hq : d[k] = L[k]
          · have hs' : Hid (∀ j, j < k + 1 → (d[0] :: r)[j]? = (lim true)[j]?) := fun j hj => by
              by_cases e : j = k
              · subst e
                rw [gd, gL, hq]
              · exact hsame.out j (by omega)
            have tq : ((d[k].toNat : Int) == (L[k].toNat : Int)) = true := by rw [hq]; exact beq_self_eq_true _
            clear hq gd gL hx
            go_wp2
            go_quiet (fail)
            go_wp2
            go_roundg (19 - (k + 1))
            case rel => exact ⟨k + 1, _, rfl, by omega, by go_num, rfl, hs'⟩
            case measure => omega
          · have hdif := differ true d[0] r h49 hdg' hl19'.out k hsame.out d[k] L[k] gd gL hq
            have tq : ((d[k].toNat : Int) == (L[k].toNat : Int)) = false := beq_false_of_ne (fun e => hq (UInt8.toNat_inj.1 (by omega)))
            clear hq gd gL hx
            by_cases hlo : d[k].toNat < L[k].toNat
            · have tl : (d[k].toNat : Int) < (L[k].toNat : Int) := by omega
              go_wp2
              go_quiet (fail)
              go_wp2
              go_quiet (fail)
              go_wp2
              go_ret
              exact says_true (by rw [hsig.out, hr.out]; exact hdif.2 hlo) ⟨rfl, rfl, rfl, Nat.le_refl _, fun _ _ => rfl⟩
            · have tl : ¬ (d[k].toNat : Int) < (L[k].toNat : Int) := by omega
              go_wp2
              go_quiet (fail)
              go_wp2
              go_quiet (fail)
              go_wp2
              go_ret
              exact says_false (by rw [hsig.out, hr.out, hdif]; exact hlo) ⟨rfl, rfl, rfl, Nat.le_refl _, fun _ _ => rfl⟩
        · have tk2 : ¬ (k : Int) < 19 := by omega
          have hyes := same true d[0] r h49 hdg' hl19'.out (fun j hj => hsame.out j (by omega))
          go_wp2
          go_ret
          exact says_true (by rw [hsig.out, hr.out]; exact hyes) ⟨rfl, rfl, rfl, Nat.le_refl _, fun _ _ => rfl⟩

theorem canon_pos (s : ByteArray) (w : World) (h0 : ∀ h : 0 < s.size, s[0].toNat ≠ 45) :
    Calls Tryd.prog 9 #[.string s] w (Says s.data.toList w) := by
  have hd0 : Head false s.data.toList := fun _ => by
    intro e
    by_cases h : 0 < s.size
    · obtain ⟨r, hr, _⟩ := cons_of s h
      rw [hr] at e
      injection e with e
      exact h0 h (by rw [e]; rfl)
    · have := list_len s
      rw [List.eq_nil_of_length_eq_zero (l := s.data.toList) (by omega)] at e
      cases e
  have hsig : Hid (s.data.toList = signed false s.data.toList) := rfl
  have hlen := list_len s
  by_cases hz : s.size = 0 ∨ 19 < s.size
  case pos =>
    have hno := not_len false s.data.toList hd0 (by omega)
    go_enter Tryd.func9, Tryd.ntmps9
    rcases hz with hz | hz
    · have q0 : ((s.size : Int) == 0) = true := beq_iff_eq.2 (by omega)
      have t0 : ¬ (0 : Int) < (s.size : Int) := by omega
      go_wp2
      go_ret
      exact says_false (hsig.out ▸ hno) (Below.refl _ _)
    · have q0 : ((s.size : Int) == 0) = false := beq_false_of_ne (by omega)
      have q19 : (19 : Int) < (s.size : Int) := by omega
      have t0 : (0 : Int) < (s.size : Int) := by omega
      have hpos : 0 < s.size := by omega
      have n45 : (((s[0].toNat : Nat) : Int) == 45) = false := by have := h0 hpos; simp; omega
      go_wp2
      go_ret
      exact says_false (hsig.out ▸ hno) (Below.refl _ _)
  have hpos : 0 < s.size := by omega
  have hle : s.size ≤ 19 := by omega
  have q0 : ((s.size : Int) == 0) = false := beq_false_of_ne (by omega)
  have q19 : ¬ (19 : Int) < (s.size : Int) := by omega
  clear hlen
  have t0 : (0 : Int) < (s.size : Int) := by omega
  have n45 : (((s[0].toNat : Nat) : Int) == 45) = false := by have := h0 hpos; simp; omega
  go_enter Tryd.func9, Tryd.ntmps9
  go_wp2
  go_loop [5] (fun i => ∃ k : Nat, k ≤ s.size ∧ i = .int .i64 k ∧ Hid (∀ j (h : j < s.size), j < k → 48 ≤ s[j].toNat ∧ s[j].toNat ≤ 57)) (fun i => s.size - (intOf i).toNat)
  case atStart => exact ⟨0, Nat.zero_le _, rfl, fun j _ h => absurd h (Nat.not_lt_zero _)⟩
  case round =>
    obtain ⟨k, hk, rfl, hdig⟩ := hrel
    by_cases hlt : k < s.size
    · have tk : (k : Int) < (s.size : Int) := by omega
      by_cases hlo : s[k].toNat < 48
      · have hno := not_dig false s.data.toList hd0 _ (mem_of s k hlt) (Or.inl hlo)
        have b1 : ((s[k].toNat : Nat) : Int) < 48 := by omega
        go_wp2
        go_ret
        exact says_false (hsig.out ▸ hno) (Below.refl _ _)
      by_cases hhi : 57 < s[k].toNat
      · have hno := not_dig false s.data.toList hd0 _ (mem_of s k hlt) (Or.inr hhi)
        have b1 : ¬ ((s[k].toNat : Nat) : Int) < 48 := by omega
        have b2 : (57 : Int) < ((s[k].toNat : Nat) : Int) := by omega
        go_wp2
        go_ret
        exact says_false (hsig.out ▸ hno) (Below.refl _ _)
      have b1 : ¬ ((s[k].toNat : Nat) : Int) < 48 := by omega
      have b2 : ¬ (57 : Int) < ((s[k].toNat : Nat) : Int) := by omega
      have hdig' : Hid (∀ j (h : j < s.size), j < k + 1 → 48 ≤ s[j].toNat ∧ s[j].toNat ≤ 57) := fun j h hj => by
        by_cases e : j = k
        · subst e; omega
        · exact hdig.out j h (by omega)
      go_wp2
      go_round
      case rel => exact ⟨k + 1, by omega, by go_num, hdig'⟩
      case measure => simp [intOf]; omega
    · have tk : ¬ (k : Int) < (s.size : Int) := by omega
      have hdg : Digits s.data.toList := digits_of s (fun j h => hdig.out j h (by omega))
      clear hdig
      obtain ⟨r, hr1, hrl⟩ := cons_of s hpos
      have hr := Lib.hid hr1
      clear hr1
      by_cases hz : s[0].toNat = 48
      · have z0 : ((s[0].toNat : Int) == 48) = true := beq_iff_eq.2 (by omega)
        have hn1 : IsInt (signed false s.data.toList) ↔ (r = [] ∧ false = false) := by
          rw [hr.out, show s[0] = 48 from UInt8.toNat_inj.1 hz]
          exact nought false r
        have hn := Lib.hid hn1
        clear hn1
        by_cases h1 : r.length = 0
        · have z1 : ((s.size : Int) == 1) = true := beq_iff_eq.2 (by omega)
          have hr0 := Lib.hid (List.eq_nil_of_length_eq_zero h1)
          clear h1
          go_wp2
          go_ret
          exact says_true (by rw [hsig.out, hn.out]; simp [hr0.out]) (Below.refl _ _)
        · have z1 : ((s.size : Int) == 1) = false := beq_false_of_ne (by omega)
          go_wp2
          go_ret
          exact says_false (by rw [hsig.out, hn.out]; rintro ⟨e, _⟩; rw [e] at h1; exact h1 rfl) (Below.refl _ _)
      have z0 : ((s[0].toNat : Int) == 48) = false := beq_false_of_ne (by omega)
      have hdg' : Digits (s[0] :: r) := hr.out ▸ hdg
      have h49 : 49 ≤ s[0].toNat := by have := hdg s[0] (mem_of s 0 hpos); omega
      by_cases h19 : s.size < 19
      · have z1 : (s.size : Int) < 19 := by omega
        have hyes := short false s[0] r h49 hdg' (by simp; omega)
        go_wp2
        go_ret
        exact says_true (by rw [hsig.out, hr.out]; exact hyes) (Below.refl _ _)
      have z1 : ¬ (s.size : Int) < 19 := by omega
      have hl19 : (s[0] :: r).length = 19 := by simp; omega
      have hl19' := Lib.hid hl19
      clear hl19
      go_wp2
      generalize hL : (ByteArray.mk #[57, 50, 50, 51, 51, 55, 50, 48, 51, 54, 56, 53, 52, 55, 55, 53, 56, 48, 55]) = L
      have hL1 : L = limB false := hL.symm
      have hx : ∀ j (h : j < L.size), (lim false)[j]? = some L[j] := fun j h => by subst hL1; exact get_list _ _ h
      have hLs : 19 ≤ L.size := by rw [hL1]; exact Nat.le_of_eq (limB_size false).symm
      clear hL hL1
      go_loopg [7] 19 (fun g i wr => ∃ k n : Nat, g = 19 - k ∧ k ≤ 19 ∧ i = .int .i64 k ∧ wr = w.drewN n ∧ Hid (∀ j, j < k → (s[0] :: r)[j]? = (lim false)[j]?))
      case atStart => exact ⟨0, 0, rfl, Nat.zero_le _, rfl, rfl, fun j h => absurd h (Nat.not_lt_zero _)⟩
      case round =>
        obtain ⟨k, n, rfl, hk19, rfl, rfl, hsame⟩ := hrel
        by_cases hlt : k < 19
        · have tk2 : (k : Int) < 19 := by omega
          have hkd : k < s.size := by omega
          have hkL : k < L.size := by omega
          have gd : (s[0] :: r)[k]? = some s[k] := by rw [← hr.out]; exact get_list s k hkd
          have gL := hx k hkL
          have i1 : (k : Int) < (s.size : Int) := by omega
          have i2 : (k : Int) < (L.size : Int) := by omega
          by_cases hq : s[k] = L[k]
          · have hs' : Hid (∀ j, j < k + 1 → (s[0] :: r)[j]? = (lim false)[j]?) := fun j hj => by
              by_cases e : j = k
              · subst e
                rw [gd, gL, hq]
              · exact hsame.out j (by omega)
            have tq : ((s[k].toNat : Int) == (L[k].toNat : Int)) = true := by rw [hq]; exact beq_self_eq_true _
            clear hq gd gL hx
            go_wp2
            go_quiet (fail)
            go_wp2
            go_roundg (19 - (k + 1))
            case rel => exact ⟨k + 1, _, rfl, by omega, by go_num, rfl, hs'⟩
            case measure => omega
          · have hdif := differ false s[0] r h49 hdg' hl19'.out k hsame.out s[k] L[k] gd gL hq
            have tq : ((s[k].toNat : Int) == (L[k].toNat : Int)) = false := beq_false_of_ne (fun e => hq (UInt8.toNat_inj.1 (by omega)))
            clear hq gd gL hx
            by_cases hlo : s[k].toNat < L[k].toNat
            · have tl : (s[k].toNat : Int) < (L[k].toNat : Int) := by omega
              go_wp2
              go_quiet (fail)
              go_wp2
              go_quiet (fail)
              go_wp2
              go_ret
              exact says_true (by rw [hsig.out, hr.out]; exact hdif.2 hlo) ⟨rfl, rfl, rfl, Nat.le_refl _, fun _ _ => rfl⟩
            · have tl : ¬ (s[k].toNat : Int) < (L[k].toNat : Int) := by omega
              go_wp2
              go_quiet (fail)
              go_wp2
              go_quiet (fail)
              go_wp2
              go_ret
              exact says_false (by rw [hsig.out, hr.out, hdif]; exact hlo) ⟨rfl, rfl, rfl, Nat.le_refl _, fun _ _ => rfl⟩
        · have tk2 : ¬ (k : Int) < 19 := by omega
          have hyes := same false s[0] r h49 hdg' hl19'.out (fun j hj => hsame.out j (by omega))
          go_wp2
          go_ret
          exact says_true (by rw [hsig.out, hr.out]; exact hyes) ⟨rfl, rfl, rfl, Nat.le_refl _, fun _ _ => rfl⟩

theorem canon_any (s : ByteArray) (w : World) : Calls Tryd.prog 9 #[.string s] w (Says s.data.toList w) := by
  by_cases h : ∃ h : 0 < s.size, s[0].toNat = 45
  · obtain ⟨hp, h0⟩ := h
    obtain ⟨d, hsl, hsig, _⟩ := slice_one s hp h0
    exact canon_neg s d w hp h0 hsl hsig
  · exact canon_pos s w (fun hp h0 => h ⟨hp, h0⟩)

end Go.Proofs.Qxb6608882aDoor
