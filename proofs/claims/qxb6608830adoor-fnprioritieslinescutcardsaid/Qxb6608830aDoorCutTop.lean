import Derived.Test.Qxb6608830aDoorSame
namespace Go.Proofs.Qxb6608830aDoor
open Go.RowKit Go.Deep
set_option maxRecDepth 100000
set_option maxHeartbeats 2000000

theorem reads_back (n : Int) (h0 : -9223372036854775808 ≤ n) (h1 : n ≤ 9223372036854775807) (w : World) :
    Calls Tryd.prog 10 #[.string ⟨(Lib.itoa n).toArray⟩, .int .i64 n] w fun e w' => e = .returned (.bool true) ∧ w' = w :=
  (reads_itoa n h0 h1 w).mono fun _ _ h => ⟨h.1, h.2.symm⟩

theorem quiet_here {P : Program} {f : FuncId} {args : Array Value} {w : World} {D x : Nat} {v : Value} (h : Calls P f args (w.drewN (D + x)) fun e w' => e = .returned v ∧ w' = w.drewN (D + x)) :
    Calls P f args (w.drewN (D + x)) fun e w'' => e = .returned v ∧ ∃ n, w'' = w.drewN (D + n) := h.mono fun _ _ h => ⟨h.1, x, h.2⟩

theorem cut_top (name : ByteArray) (a : Option Addr) (b off n cap : Nat) (ha : 0 < n → a = some ⟨b, off, none⟩) (ip : Nat → ByteArray) (port prio : Nat → Int) (cut : Int) (w : World) (hs : name.size ≤ maxLen) (hn : n ≤ maxLen)
    (hT : Trip w b off n ip port prio) (hip : ∀ i, (ip i).size ≤ maxLen) (htab : Lib.TabIs Tryd.prog w tabName .u64 Lib.pow10Tab)
    (hp : ∀ i, -9223372036854775808 ≤ port i ∧ port i ≤ 9223372036854775807) (hq : ∀ i, -9223372036854775808 ≤ prio i ∧ prio i ≤ 9223372036854775807) (hcut : -9223372036854775808 ≤ cut ∧ cut ≤ 9223372036854775807) :
    Calls Tryd.prog 4 #[.string name, .slice a n cap, .int .i64 cut] w fun e w' => e = .returned (.bool true) ∧ Below w.heap.size w w' := by
  have hs' := hs
  have hn' := hn
  have hip' := hip
  unfold maxLen at hs' hn' hip'
  go_enter Tryd.func4, Tryd.ntmps4
  go_wp2_with fail
  refine (bytes11_any name a b off n cap ha ip port prio _ w hs hn hT hip).mono ?_
  rintro e w1 ⟨⟨x, rfl⟩, rfl⟩
  cases x with
  | false =>
    go_wp2
    go_ret
    exact ⟨rfl, Below.refl _ _⟩
  | true =>
    by_cases c1 : name.size ≤ 1048576
    case neg =>
      have c1' : (1048576 : Int) < (name.size : Int) := by omega
      go_wp2
      go_ret
      exact ⟨rfl, Below.refl _ _⟩
    have c1' : ¬ (1048576 : Int) < (name.size : Int) := by omega
    by_cases c2 : n ≤ 65536
    case neg =>
      have c2' : (65536 : Int) < (n : Int) := by omega
      go_wp2
      go_ret
      exact ⟨rfl, Below.refl _ _⟩
    have c2' : ¬ (65536 : Int) < (n : Int) := by omega
    by_cases c3 : name.size + 24 * n ≤ 1048576
    case neg =>
      have c3' : (1048576 : Int) < (name.size : Int) + 24 * (n : Int) := by omega
      go_wp2
      go_ret
      exact ⟨rfl, Below.refl _ _⟩
    have c3' : ¬ (1048576 : Int) < (name.size : Int) + 24 * (n : Int) := by omega
    go_wp2
    go_loop [7, 8] (fun t i => ∃ k : Nat, ∃ z : Int, k ≤ n ∧ i = .int .i64 k ∧ t = .int .i64 z ∧ 0 ≤ z ∧ z ≤ 1048576) (fun _ i => n - (intOf i).toNat)
    case atStart => exact ⟨0, _, Nat.zero_le _, rfl, rfl, by omega, by omega⟩
    case round =>
      obtain ⟨k, z, hk, rfl, rfl, hz0, hz1⟩ := hrel
      by_cases hlt : k < n
      · have e := ha (by omega)
        subst e
        obtain ⟨h1, h2, h3⟩ := hT k hlt
        have hsz := hip' k
        clear hip hip' hT ha hp hq htab
        go_wp2
        case _ => go_ret; exact ⟨rfl, Below.refl _ _⟩
        case _ => go_ret; exact ⟨rfl, Below.refl _ _⟩
        go_round
        case rel => exact ⟨k + 1, _, by omega, by go_num, rfl, by omega, by omega⟩
        case measure => simp [intOf]; omega
      · by_cases d1 : cut < 0
        · go_wp2
          go_ret
          exact ⟨rfl, Below.refl _ _⟩
        by_cases d2 : (n : Int) < cut
        · go_wp2
          go_ret
          exact ⟨rfl, Below.refl _ _⟩
        obtain ⟨c, rfl⟩ : ∃ c : Nat, cut = c := ⟨cut.toNat, by omega⟩
        have hcn : c ≤ n := by omega
        clear hk hz0 hz1 c1' c2' c3' hs hs' hn hn' hip hip' hcut c3
        have htb := Lib.tabBelow_of_tabIs htab
        go_wp2_with fail
        refine (toPrios_left a b off n cap n ha ip port prio w hT (Nat.le_refl _) c2).mono ?_
        rintro e w1 ⟨rfl, hT1, hb1⟩
        go_wp2_with fail
        refine (zzwrite4_any w1.heap.size w.heap.size n name ip port prio _ c2 (htb _ (hb1.alloc hb1.size _)) (by simp [go_sem]) (by simp [go_sem]) (hT1.kept (by go_grown)) hp hq).mono ?_
        rintro e w2 ⟨R1, rfl, hL1, hb2⟩
        have k2 : Below w.heap.size w w2 := (hb1.alloc hb1.size _).trans (hb2.mono (by have := hb1.size; simp; omega))
        clear hb1 hb2 hT1
        go_wp2_with fail
        refine (toPrios_left a b off n cap c ha ip port prio w2 (hT.kept k2) hcn c2).mono ?_
        rintro e w3 ⟨rfl, hT3, hb3⟩
        go_wp2_with fail
        have k3 : Below w.heap.size w w3 := k2.trans (hb3.mono k2.size)
        refine (zzwrite4_any w3.heap.size w2.heap.size c name ip port prio _ (by omega) (htb _ (k3.alloc k3.size _)) (by simp [go_sem]) (by simp [go_sem]) (hT3.kept (by go_grown)) hp hq).mono ?_
        rintro e w4 ⟨R2, rfl, hL2, hb4⟩
        have q24 : Below w2.heap.size w2 w4 := (hb3.alloc hb3.size _).trans (hb4.mono (by have := hb3.size; simp; omega))
        have k4 : Below w.heap.size w w4 := k2.trans (q24.mono k2.size)
        have hL1 := hL1.kept q24
        clear hb3 hb4 hT3 k2 k3 q24
        go_wp2_with fail
        refine (toPrios_right a b off n cap c ha ip port prio w4 (hT.kept k4) hcn c2).mono ?_
        rintro e w5 ⟨rfl, hT5, hb5⟩
        go_wp2_with fail
        have k5 : Below w.heap.size w w5 := k4.trans (hb5.mono k4.size)
        refine (zzwrite4_any w5.heap.size w4.heap.size (n - c) name _ _ _ _ (by omega) (htb _ (k5.alloc k5.size _)) (by simp [go_sem]) (by simp [go_sem]) (hT5.kept (by go_grown)) (fun i => hp _) (fun i => hq _)).mono ?_
        rintro e w6 ⟨R3, rfl, hL3, hb6⟩
        have q46 : Below w4.heap.size w4 w6 := (hb5.alloc hb5.size _).trans (hb6.mono (by have := hb5.size; simp; omega))
        have k6 : Below w.heap.size w w6 := k4.trans (q46.mono k4.size)
        have hL1 := hL1.kept q46
        have hL2 := hL2.kept q46
        have hT6 := hT.kept k6
        clear hb5 hb6 hT5 k4 k5 q46 hT htab htb
        have hsub : ((n - c : Nat) : Int) = (n : Int) - (c : Int) := by omega
        go_wp2_with fail
        go_loopw [12] (fun i wr => ∃ j : Nat, j ≤ n ∧ i = .int .i64 j ∧ ∃ d, wr = w6.drewN d) (fun i _ => n - (intOf i).toNat)
        case atStart => exact ⟨0, Nat.zero_le _, rfl, 0, rfl⟩
        case round =>
          clear hlt hsub
          obtain ⟨j, hj, rfl, d, rfl⟩ := hrel
          by_cases hlt : j < n
          · have e := ha (by omega)
            subst e
            obtain ⟨t1, t2, t3⟩ := hT6 j hlt
            obtain ⟨q, l1, lq⟩ := hL1 j hlt
            obtain ⟨p1, p2⟩ := hp j
            obtain ⟨r1, r2⟩ := hq j
            have i1 : (j : Int) < (n : Int) := by omega
            have lq' := lq
            obtain ⟨s0, s1, s2, s3⟩ := lq
            by_cases hc : j < c
            · obtain ⟨q', l2, lq2⟩ := hL2 j hc
              have i2 : (j : Int) < (c : Int) := by omega
              clear hL1 hL2 hL3 hT6 hp hq ha
              go_wp2_with fail
              refine (same4 q q' name (ip j) (port j) (prio j) (w6.drewN d) (lq'.kept rfl) (lq2.kept rfl)).mono ?_
              rintro e w7 ⟨rfl, d7, rfl⟩
              go_wp2_with fail
              go_quiet ((first | (go_at_call_of 10 (Value.int IntKind.i64 (port j)); exact quiet_here (reads_back (port j) p1 p2 _)) | (go_at_call_of 10 (Value.int IntKind.i64 (prio j)); exact quiet_here (reads_back (prio j) r1 r2 _))))
              go_wp2
              go_roundw
              case rel => exact ⟨j + 1, by omega, by go_num, _, rfl⟩
              case measure => simp [intOf]; omega
            · obtain ⟨q', l2, lq2⟩ := hL3 (j - c) (by omega)
              simp only [show c + (j - c) = j by omega] at lq2
              have i2 : ¬ (j : Int) < (c : Int) := by omega
              obtain ⟨jc, hjc⟩ : ∃ jc, jc = j - c := ⟨_, rfl⟩
              rw [← hjc] at l2
              have i3 : (j : Int) - (c : Int) = (jc : Int) := by omega
              have i4 : (jc : Int) < ((n - c : Nat) : Int) := by omega
              have i5 : wrap64 ((j : Int) - (c : Int)) = (jc : Int) := by unfold wrap64; omega
              clear hL1 hL2 hL3 hT6 hp hq ha hjc
              go_wp2_with fail
              refine (same4 q q' name (ip j) (port j) (prio j) (w6.drewN d) (lq'.kept rfl) (lq2.kept rfl)).mono ?_
              rintro e w7 ⟨rfl, d7, rfl⟩
              go_wp2_with fail
              go_quiet ((first | (go_at_call_of 10 (Value.int IntKind.i64 (port j)); exact quiet_here (reads_back (port j) p1 p2 _)) | (go_at_call_of 10 (Value.int IntKind.i64 (prio j)); exact quiet_here (reads_back (prio j) r1 r2 _))))
              go_wp2
              go_roundw
              case rel => exact ⟨j + 1, by omega, by go_num, _, rfl⟩
              case measure => simp [intOf]; omega
          · go_wp2
            go_ret
            exact ⟨rfl, below_drewN k6 _⟩
end Go.Proofs.Qxb6608830aDoor
