import Derived.Test.Qxb6608882aDoorShelf
import Derived.Test.Qxb6608882aDoorCanon
namespace Go.Proofs.Qxb6608882aDoor
open Go.RowKit
set_option maxRecDepth 100000
set_option maxHeartbeats 1000000

/-- zzBytes_FnQuotesExactly answers one of two, and leaves the world alone. -/
theorem bytes_any (a b c d : ByteArray) (x y : Bool) (w : World) :
    Calls Tryd.prog 5 #[.string a, .string b, .string c, .bool x, .bool y, .string d] w fun e w' => (∃ z, e = .returned (.bool z)) ∧ w = w' := by
  go_enter Tryd.func5, Tryd.ntmps5
  go_wp2
  all_goals
    go_ret
    exact ⟨⟨_, rfl⟩, rfl⟩

theorem alloc_new (w : World) (o : Obj) : (w.alloc o).heap[w.heap.size]? = some o := by
  show (w.heap.push o)[w.heap.size]? = some o
  exact Array.getElem?_push_size

theorem target_any (a b c : ByteArray) (x y : Bool) (w : World) :
    Calls Tryd.prog 6 #[.string a, .string b, .string c, .bool x, .bool y] w fun e w' => e = .returned (.pointer (some ⟨w.heap.size, 0, none⟩)) ∧ ∃ o, w' = w.alloc o ∧ (w.alloc o).cell? ⟨w.heap.size, 4, none⟩ = some (.bool y) := by
  go_enter Tryd.func6, Tryd.ntmps6
  go_wp2
  go_ret
  refine ⟨rfl, _, rfl, ?_⟩
  simp only [World.cell?, alloc_new]
  rfl

/-- The text opens as a literal does. -/
def Lit (l : List UInt8) : Bool := Lib.hasPrefix l [39] || Lib.hasPrefix l [120, 39] || Lib.hasPrefix l [88, 39]

theorem lit_one (x : UInt8) : Lit [x] = (39 == x) := by
  simp [Lit, Lib.hasPrefix, List.isPrefixOf]
theorem lit_two (x y : UInt8) (r : List UInt8) : Lit (x :: y :: r) = ((39 == x) || (120 == x && 39 == y) || (88 == x && 39 == y)) := by
  simp [Lit, Lib.hasPrefix, List.isPrefixOf]

theorem byte_is (c d : UInt8) (h : c = d) : (((c.toNat : Nat) : Int) == ((d.toNat : Nat) : Int)) = true := by rw [h]; exact beq_self_eq_true _
theorem byte_not (c d : UInt8) (h : c ≠ d) : (((c.toNat : Nat) : Int) == ((d.toNat : Nat) : Int)) = false := beq_false_of_ne (fun e => h (UInt8.toNat_inj.1 (by omega)))

theorem two_of (s : ByteArray) (h : 1 < s.size) : ∃ r, s.data.toList = s[0] :: s[1] :: r := by
  have h0 := get_list s 0 (by omega)
  have h1 := get_list s 1 h
  cases hd : s.data.toList with
  | nil => rw [hd] at h0; cases h0
  | cons c r =>
    rw [hd] at h0 h1
    cases r with
    | nil => cases h1
    | cons c' r' =>
      simp at h0 h1
      rw [← h0, ← h1]
      exact ⟨r', rfl⟩

theorem lit_any (s : ByteArray) (w : World) : Calls Tryd.prog 8 #[.string s] w fun e w' => e = .returned (.bool (Lit s.data.toList)) ∧ w = w' := by
  by_cases h0 : 0 < s.size
  case neg =>
    have t0 : ¬ (1 : Int) ≤ (s.size : Int) := by omega
    have t1 : ¬ (2 : Int) ≤ (s.size : Int) := by omega
    go_enter Tryd.func8, Tryd.ntmps8
    go_wp2
    go_ret
    have e : s.data.toList = [] := List.eq_nil_of_length_eq_zero (by rw [list_len]; omega)
    rw [e]
    exact ⟨rfl, rfl⟩
  have t0 : (1 : Int) ≤ (s.size : Int) := by omega
  by_cases a1 : s[0] = 39
  · have q1 : (((s[0].toNat : Nat) : Int) == 39) = true := byte_is _ 39 a1
    have hl := Lib.hid a1
    clear a1
    go_enter Tryd.func8, Tryd.ntmps8
    go_wp2
    go_ret
    obtain ⟨r, hr, _⟩ := cons_of s h0
    rw [hr, hl.out]
    exact ⟨rfl, rfl⟩
  have q1 : (((s[0].toNat : Nat) : Int) == 39) = false := byte_not _ 39 a1
  by_cases h1 : 1 < s.size
  case neg =>
    have t1 : ¬ (2 : Int) ≤ (s.size : Int) := by omega
    go_enter Tryd.func8, Tryd.ntmps8
    go_wp2
    go_ret
    obtain ⟨r, hr, hl⟩ := cons_of s h0
    have e : r = [] := List.eq_nil_of_length_eq_zero (by omega)
    rw [hr, e, lit_one, beq_false_of_ne (Ne.symm a1)]
    exact ⟨rfl, rfl⟩
  have t1 : (2 : Int) ≤ (s.size : Int) := by omega
  by_cases a2 : s[0] = 120
  · have q2 : (((s[0].toNat : Nat) : Int) == 120) = true := byte_is _ 120 a2
    have hl2 := Lib.hid a2
    clear a2 q1 a1
    by_cases a3 : s[1] = 39
    · have q3 : (((s[1].toNat : Nat) : Int) == 39) = true := byte_is _ 39 a3
      have hl3 := Lib.hid a3
      clear a3
      have q1 : (((s[0].toNat : Nat) : Int) == 39) = false := byte_not _ 39 (by rw [hl2.out]; decide)
      go_enter Tryd.func8, Tryd.ntmps8
      go_wp2
      go_ret
      obtain ⟨r, hr⟩ := two_of s h1
      rw [hr, hl2.out, hl3.out]
      exact ⟨rfl, rfl⟩
    · have q3 : (((s[1].toNat : Nat) : Int) == 39) = false := byte_not _ 39 a3
      have q1 : (((s[0].toNat : Nat) : Int) == 39) = false := byte_not _ 39 (by rw [hl2.out]; decide)
      go_enter Tryd.func8, Tryd.ntmps8
      go_wp2
      go_ret
      obtain ⟨r, hr⟩ := two_of s h1
      rw [hr, hl2.out, lit_two, beq_false_of_ne (Ne.symm a3)]
      exact ⟨rfl, rfl⟩
  have q2 : (((s[0].toNat : Nat) : Int) == 120) = false := byte_not _ 120 a2
  by_cases a4 : s[0] = 88
  · have q4 : (((s[0].toNat : Nat) : Int) == 88) = true := byte_is _ 88 a4
    have hl4 := Lib.hid a4
    clear a4 q1 q2 a1 a2
    have q1 : (((s[0].toNat : Nat) : Int) == 39) = false := byte_not _ 39 (by rw [hl4.out]; decide)
    have q2 : (((s[0].toNat : Nat) : Int) == 120) = false := byte_not _ 120 (by rw [hl4.out]; decide)
    by_cases a3 : s[1] = 39
    · have q3 : (((s[1].toNat : Nat) : Int) == 39) = true := byte_is _ 39 a3
      have hl3 := Lib.hid a3
      clear a3
      go_enter Tryd.func8, Tryd.ntmps8
      go_wp2
      go_ret
      obtain ⟨r, hr⟩ := two_of s h1
      rw [hr, hl4.out, hl3.out]
      exact ⟨rfl, rfl⟩
    · have q3 : (((s[1].toNat : Nat) : Int) == 39) = false := byte_not _ 39 a3
      go_enter Tryd.func8, Tryd.ntmps8
      go_wp2
      go_ret
      obtain ⟨r, hr⟩ := two_of s h1
      rw [hr, hl4.out, lit_two, beq_false_of_ne (Ne.symm a3)]
      exact ⟨rfl, rfl⟩
  have q4 : (((s[0].toNat : Nat) : Int) == 88) = false := byte_not _ 88 a4
  go_enter Tryd.func8, Tryd.ntmps8
  go_wp2
  go_ret
  obtain ⟨r, hr⟩ := two_of s h1
  rw [hr, lit_two, beq_false_of_ne (Ne.symm a1), beq_false_of_ne (Ne.symm a2), beq_false_of_ne (Ne.symm a4)]
  exact ⟨rfl, rfl⟩

/-- integer: whether the text is an int64's decimal. -/
theorem integer_any (s : ByteArray) (hs : s.size ≤ 262144) (w : World) (e0 : IsErr w 0) (e1 : IsErr w 1) (htab : Lib.TabIs Tryd.prog w tabName .u64 Lib.pow10Tab) :
    Calls Tryd.prog 17 #[.string s] w fun e w' => Below w.heap.size w w' ∧ ∃ n b, e = .returned (.tuple #[.int .i64 n, .bool b]) ∧ (b = true ↔ IsInt s.data.toList) := by
  go_enter Tryd.func17, Tryd.ntmps17
  go_wp2_with fail
  refine (parse_any s (by omega) w e0 e1).mono ?_
  rintro e w1 ⟨hb1, ⟨v, hv, rfl⟩ | ⟨hv, n, N, rfl⟩⟩
  · have hbd := Lib.parseIntB_bounds hv
    have hok := Lib.hid (integer_ok hv)
    clear hv
    have b0 : -9223372036854775808 ≤ v := by have := hbd.1; simp at this; omega
    have b1 : v ≤ 9223372036854775807 := by have := hbd.2; simp at this; omega
    clear hbd
    go_wp2_with fail
    refine (format_any v b0 b1 w1 ((Lib.tabBelow_of_tabIs htab) w1 hb1)).mono ?_
    rintro e w2 ⟨rfl, k, os, rfl⟩
    have hb2 : Below w.heap.size w (Sort.grow (w1.drewN k) os) := hb1.trans (Lib.below_grow _ w1 hb1.size k os)
    by_cases hq : Lib.itoa v = s.data.toList
    · have tq : ((ByteArray.mk (Lib.itoa v).toArray).toList == s.toList) = true := by rw [ByteArray.toList_eq, ByteArray.toList_eq]; simp [hq]
      have hq' := Lib.hid hq
      clear hq
      go_wp2
      go_ret2
      exact ⟨hb2, _, _, rfl, by simp [hok.out, hq'.out, ByteArray.toList_eq]⟩
    · have tq : ((ByteArray.mk (Lib.itoa v).toArray).toList == s.toList) = false := by rw [ByteArray.toList_eq, ByteArray.toList_eq]; simp [hq]
      go_wp2
      go_ret2
      exact ⟨hb2, _, _, rfl, by simp [hok.out, hq, ByteArray.toList_eq]⟩
  · have hno := Lib.hid (integer_not hv)
    clear hv
    go_wp2
    go_ret2
    exact ⟨hb1, _, _, rfl, by simp [hno.out]⟩

/-- What quotes answers. -/
def Quoted (tx : Bool) (l : List UInt8) (B : Nat) (w : World) (e : Ending) (w' : World) : Prop := Below B w w' ∧ ∃ x, e = .returned (.bool x) ∧ (x = true ↔ (Lit l = true ∨ (tx = false ∧ IsInt l)))

theorem quotes_any (b : Nat) (s : ByteArray) (tx : Bool) (hs : s.size ≤ 262144) (w : World) (hc : w.cell? ⟨b, 4, none⟩ = some (.bool tx)) (e0 : IsErr w 0) (e1 : IsErr w 1) (htab : Lib.TabIs Tryd.prog w tabName .u64 Lib.pow10Tab) :
    Calls Tryd.prog 13 #[.pointer (some ⟨b, 0, none⟩), .string s] w (Quoted tx s.data.toList w.heap.size w) := by
  have hlt : b < w.heap.size := World.block_lt_of_cell? _ _ hc
  obtain ⟨p1, hp1⟩ : ∃ p, Hid (Lib.hasPrefix s.data.toList [39] = p) := ⟨_, rfl⟩
  obtain ⟨p2, hp2⟩ : ∃ p, Hid (Lib.hasPrefix s.data.toList [120, 39] = p) := ⟨_, rfl⟩
  obtain ⟨p3, hp3⟩ : ∃ p, Hid (Lib.hasPrefix s.data.toList [88, 39] = p) := ⟨_, rfl⟩
  have c1 : Calls Tryd.prog 16 #[.string s, .string ⟨#[39]⟩] w fun e w' => e = .returned (.bool p1) ∧ w' = w := hp1.out ▸ prefix_any s ⟨#[39]⟩ w
  have c2 : Calls Tryd.prog 16 #[.string s, .string ⟨#[120, 39]⟩] w fun e w' => e = .returned (.bool p2) ∧ w' = w := hp2.out ▸ prefix_any s ⟨#[120, 39]⟩ w
  have c3 : Calls Tryd.prog 16 #[.string s, .string ⟨#[88, 39]⟩] w fun e w' => e = .returned (.bool p3) ∧ w' = w := hp3.out ▸ prefix_any s ⟨#[88, 39]⟩ w
  go_enter Tryd.func13, Tryd.ntmps13
  go_wp2_with fail
  refine c1.mono ?_
  rintro e w' ⟨rfl, rfl⟩
  cases p1 with
  | true =>
    go_wp2
    go_ret
    exact ⟨Below.refl _ _, true, rfl, by simp [Lit, hp1.out]⟩
  | false =>
    go_wp2_with fail
    refine c2.mono ?_
    rintro e w' ⟨rfl, rfl⟩
    cases p2 with
    | true =>
      go_wp2
      go_ret
      exact ⟨Below.refl _ _, true, rfl, by simp [Lit, hp2.out]⟩
    | false =>
      go_wp2_with fail
      refine c3.mono ?_
      rintro e w' ⟨rfl, rfl⟩
      cases p3 with
      | true =>
        go_wp2
        go_ret
        exact ⟨Below.refl _ _, true, rfl, by simp [Lit, hp3.out]⟩
      | false =>
        go_wp2_with fail
        refine (integer_any s hs _ e0 e1 htab).mono ?_
        rintro e w1 ⟨hb1, n, x, rfl, hx⟩
        have hc1 : w1.cell? ⟨b, 4, none⟩ = some (.bool tx) := (World.cell?_of_block (a := ⟨b, 4, none⟩) (hb1.block b hlt)).trans hc
        have hx := Lib.hid hx
        cases tx with
        | true =>
          go_wp2
          go_ret
          exact ⟨hb1, false, rfl, by simp [Lit, hp1.out, hp2.out, hp3.out]⟩
        | false =>
          go_wp2
          go_ret
          exact ⟨hb1, x, rfl, by simp [Lit, hp1.out, hp2.out, hp3.out, hx.out]⟩

theorem ask_any (b : Nat) (s : ByteArray) (tx : Bool) (hs : s.size ≤ 262144) (w : World) (hc : w.cell? ⟨b, 4, none⟩ = some (.bool tx)) (e0 : IsErr w 0) (e1 : IsErr w 1) (htab : Lib.TabIs Tryd.prog w tabName .u64 Lib.pow10Tab) :
    Calls Tryd.prog 7 #[.pointer (some ⟨b, 0, none⟩), .string s] w (Quoted tx s.data.toList w.heap.size w) := by
  go_enter Tryd.func7, Tryd.ntmps7
  go_wp2_with fail
  refine (quotes_any b s tx hs w hc e0 e1 htab).mono ?_
  rintro e w1 ⟨hb1, x, rfl, hx⟩
  have hx := Lib.hid hx
  go_wp2
  go_ret
  exact ⟨hb1, x, rfl, hx.out⟩

theorem IsErr.on {w w' : World} {g B : Nat} (h : IsErr w g) (hb : Below B w w') (hg : g < B) : IsErr w' g := by
  obtain ⟨ev, h1, h2⟩ := h
  exact ⟨ev, (World.cell?_of_block (a := ⟨g, 0, none⟩) (hb.block g hg)).trans h1, h2⟩

theorem IsErr.lt {w : World} {g : Nat} (h : IsErr w g) : g < w.heap.size := by
  obtain ⟨ev, h1, _⟩ := h
  exact World.block_lt_of_cell? _ _ h1

theorem quotes_top (a b c s : ByteArray) (ri tx : Bool) (w : World) (e0 : IsErr w 0) (e1 : IsErr w 1) (htab : Lib.TabIs Tryd.prog w tabName .u64 Lib.pow10Tab) :
    Calls Tryd.prog 3 #[.string a, .string b, .string c, .bool ri, .bool tx, .string s] w fun e w' => e = .returned (.bool true) ∧ Below w.heap.size w w' := by
  go_enter Tryd.func3, Tryd.ntmps3
  go_wp2_with fail
  refine (bytes_any a b c s ri tx w).mono ?_
  rintro e w1 ⟨⟨z, rfl⟩, rfl⟩
  cases z with
  | false =>
    go_wp2
    go_ret
    exact ⟨rfl, Below.refl _ _⟩
  | true =>
    by_cases h1 : a.size ≤ 262144
    case neg =>
      have t1 : (262144 : Int) < (a.size : Int) := by omega
      go_wp2
      go_ret
      exact ⟨rfl, Below.refl _ _⟩
    have t1 : ¬ (262144 : Int) < (a.size : Int) := by omega
    by_cases h2 : b.size ≤ 262144
    case neg =>
      have t2 : (262144 : Int) < (b.size : Int) := by omega
      go_wp2
      go_ret
      exact ⟨rfl, Below.refl _ _⟩
    have t2 : ¬ (262144 : Int) < (b.size : Int) := by omega
    by_cases h3 : c.size ≤ 262144
    case neg =>
      have t3 : (262144 : Int) < (c.size : Int) := by omega
      go_wp2
      go_ret
      exact ⟨rfl, Below.refl _ _⟩
    have t3 : ¬ (262144 : Int) < (c.size : Int) := by omega
    by_cases h4 : s.size ≤ 262144
    case neg =>
      have t4 : (262144 : Int) < (s.size : Int) := by omega
      go_wp2
      go_ret
      exact ⟨rfl, Below.refl _ _⟩
    have t4 : ¬ (262144 : Int) < (s.size : Int) := by omega
    go_wp2_with fail
    refine (target_any a b c ri tx w).mono ?_
    rintro e w1 ⟨rfl, o, rfl, hc1⟩
    have htb := Lib.tabBelow_of_tabIs htab
    have l0 := e0.lt
    have l1 := e1.lt
    have hb1 : Below w.heap.size w (w.alloc o) := (Below.refl _ _).alloc (Nat.le_refl _) _
    have hz1 : (w.alloc o).heap.size = w.heap.size + 1 := by simp
    generalize w.alloc o = W1 at *
    have hz1' : w.heap.size < W1.heap.size := by omega
    clear hz1
    go_wp2_with fail
    refine (target_any a b c ri (!tx) W1).mono ?_
    rintro e w2 ⟨rfl, o2, rfl, hc2⟩
    have hb2 : Below w.heap.size w (W1.alloc o2) := hb1.alloc (by omega) _
    have hc1' : (W1.alloc o2).cell? ⟨w.heap.size, 4, none⟩ = some (.bool tx) := by
      rw [World.cell?_alloc_old _ _ _ (by show w.heap.size ≠ W1.heap.size; omega)]; exact hc1
    have hz2 : (W1.alloc o2).heap.size = W1.heap.size + 1 := by simp
    generalize W1.alloc o2 = W2 at *
    have hz2' : W1.heap.size < W2.heap.size := by omega
    clear hz2 hc1 hb1
    go_wp2_with fail
    refine (ask_any w.heap.size s tx h4 W2 hc1' (e0.on hb2 l0) (e1.on hb2 l1) (htb W2 hb2)).mono ?_
    rintro e w3 ⟨hb3, x1, rfl, hx1⟩
    have hx1' := Lib.hid hx1
    have hc3 : w3.cell? ⟨W1.heap.size, 4, none⟩ = some (.bool (!tx)) := (World.cell?_of_block (a := ⟨W1.heap.size, 4, none⟩) (hb3.block _ hz2')).trans hc2
    have hb23 : Below w.heap.size w w3 := hb2.trans ⟨hb3.os, hb3.tape, hb3.output, hb3.size, fun k hk => hb3.block k (by omega)⟩
    clear hx1 hc2 hc1'
    go_wp2_with fail
    refine (ask_any W1.heap.size s (!tx) h4 w3 hc3 (e0.on hb23 l0) (e1.on hb23 l1) (htb w3 hb23)).mono ?_
    rintro e w4 ⟨hb4, x2, rfl, hx2⟩
    have hx2' := Lib.hid hx2
    have hz3 := hb3.size
    have hb24 : Below w.heap.size w w4 := hb23.trans ⟨hb4.os, hb4.tape, hb4.output, hb4.size, fun k hk => hb4.block k (by omega)⟩
    clear hx2 hc3
    go_wp2_with fail
    refine (lit_any s w4).mono ?_
    rintro e w5 ⟨rfl, rfl⟩
    go_wp2_with fail
    refine (canon_any s w4).mono ?_
    rintro e w6 ⟨⟨x3, rfl, hx3⟩, hb6⟩
    have hz4 := hb4.size
    have hb26 : Below w.heap.size w w6 := hb24.trans ⟨hb6.os, hb6.tape, hb6.output, hb6.size, fun k hk => hb6.block k (by omega)⟩
    have e1 : x1 = (Lit s.data.toList || (!tx && x3)) := by
      rw [Bool.eq_iff_iff, hx1'.out]
      simp [hx3]
    have e2 : x2 = (Lit s.data.toList || (tx && x3)) := by
      rw [Bool.eq_iff_iff, hx2'.out]
      simp [hx3]
    clear hx1' hx2' hx3 hb3 hb4 hb6 hb24 hb23
    subst e1
    subst e2
    generalize Lit s.data.toList = lt
    cases tx <;> cases lt <;> cases x3
    all_goals
      go_wp2
      go_ret
      exact ⟨rfl, hb26⟩

end Go.Proofs.Qxb6608882aDoor
