import Derived.Test.Qxb6608830aDoorDem
namespace Go.Proofs.Qxb6608830aDoor
open Go.RowKit Go.Deep
set_option maxRecDepth 100000
set_option maxHeartbeats 2000000

theorem reads_back2 (n : Int) (h0 : -9223372036854775808 ≤ n) (h1 : n ≤ 9223372036854775807) (w : World) :
    Calls Tryd.prog 10 #[.string ⟨(Lib.itoa n).toArray⟩, .int .i64 n] w fun e w' => e = .returned (.bool true) ∧ w' = w :=
  (reads_itoa n h0 h1 w).mono fun _ _ h => ⟨h.1, h.2.symm⟩

theorem quiet_here2 {P : Program} {f : FuncId} {args : Array Value} {w : World} {D x : Nat} {v : Value} (h : Calls P f args (w.drewN (D + x)) fun e w' => e = .returned v ∧ w' = w.drewN (D + x)) :
    Calls P f args (w.drewN (D + x)) fun e w'' => e = .returned v ∧ ∃ n, w'' = w.drewN (D + n) := h.mono fun _ _ h => ⟨h.1, x, h.2⟩

theorem ext_top (name : ByteArray) (a : Option Addr) (b off n cap : Nat) (ha : 0 < n → a = some ⟨b, off, none⟩) (ip : Nat → ByteArray) (port prio : Nat → Int) (w : World) (hs : name.size ≤ maxLen) (hn : n ≤ maxLen)
    (hT : Trip w b off n ip port prio) (hip : ∀ i, (ip i).size ≤ maxLen) (htab : Lib.TabIs Tryd.prog w tabName .u64 Lib.pow10Tab)
    (hp : ∀ i, -9223372036854775808 ≤ port i ∧ port i ≤ 9223372036854775807) (hq : ∀ i, -9223372036854775808 ≤ prio i ∧ prio i ≤ 9223372036854775807) :
    Calls Tryd.prog 5 #[.string name, .slice a n cap] w fun e w' => e = .returned (.bool true) ∧ Below w.heap.size w w' := by
  have hs' := hs
  have hn' := hn
  have hip' := hip
  unfold maxLen at hs' hn' hip'
  go_enter Tryd.func5, Tryd.ntmps5
  go_wp2_with fail
  refine (bytes14_any name a b off n cap ha ip port prio w hs hn hT hip).mono ?_
  rintro e w1 ⟨⟨x, rfl⟩, rfl⟩
  cases x with
  | false =>
    go_wp2
    go_ret
    exact ⟨rfl, Below.refl _ _⟩
  | true =>
    by_cases c1 : name.size ≤ 1048576
    case neg =>
      have c1' : (1048576 : Int) < (name.size : Int) := by omega
      go_wp2
      go_ret
      exact ⟨rfl, Below.refl _ _⟩
    have c1' : ¬ (1048576 : Int) < (name.size : Int) := by omega
    by_cases c2 : n ≤ 65536
    case neg =>
      have c2' : (65536 : Int) < (n : Int) := by omega
      go_wp2
      go_ret
      exact ⟨rfl, Below.refl _ _⟩
    have c2' : ¬ (65536 : Int) < (n : Int) := by omega
    by_cases c3 : name.size + 24 * n ≤ 1048576
    case neg =>
      have c3' : (1048576 : Int) < (name.size : Int) + 24 * (n : Int) := by omega
      go_wp2
      go_ret
      exact ⟨rfl, Below.refl _ _⟩
    have c3' : ¬ (1048576 : Int) < (name.size : Int) + 24 * (n : Int) := by omega
    go_wp2
    go_loop [5, 6] (fun t i => ∃ k : Nat, ∃ z : Int, k ≤ n ∧ i = .int .i64 k ∧ t = .int .i64 z ∧ 0 ≤ z ∧ z ≤ 1048576) (fun _ i => n - (intOf i).toNat)
    case atStart => exact ⟨0, _, Nat.zero_le _, rfl, rfl, by omega, by omega⟩
    case round =>
      obtain ⟨k, z, hk, rfl, rfl, hz0, hz1⟩ := hrel
      by_cases hlt : k < n
      · have e := ha (by omega)
        subst e
        obtain ⟨h1, h2, h3⟩ := hT k hlt
        have hsz := hip' k
        clear hip hip' hT ha hp hq htab
        go_wp2
        case _ => go_ret; exact ⟨rfl, Below.refl _ _⟩
        case _ => go_ret; exact ⟨rfl, Below.refl _ _⟩
        go_round
        case rel => exact ⟨k + 1, _, by omega, by go_num, rfl, by omega, by omega⟩
        case measure => simp [intOf]; omega
      · clear hk hz0 hz1 c1' c2' c3' hs hs' hn hn' hip hip' c3
        have htb := Lib.tabBelow_of_tabIs htab
        go_wp2_with fail
        refine (prioAddrs_any a b off n cap ha ip port prio w hT c2).mono ?_
        rintro e w1 ⟨rfl, hP1, hb1⟩
        go_wp2_with fail
        refine (toPrios_left a b off n cap n ha ip port prio w1 (hT.kept hb1) (Nat.le_refl _) c2).mono ?_
        rintro e w2 ⟨rfl, hT2, hb2⟩
        have k2 : Below w.heap.size w w2 := hb1.trans (hb2.mono hb1.size)
        have hP2 := hP1.kept hb2
        go_wp2_with fail
        obtain ⟨wG, hwG⟩ : ∃ x, x = w2.alloc (.cells #[.string name, .string ⟨#[]⟩, .int .i64 0, .int .i64 0, .int .i64 0, .int .i64 0, .int .i64 0, .int .u64 0, .int .u64 0, .slice none 0 0, .slice none 0 0, .slice (some ⟨w.heap.size, 0, none⟩) n n, .slice (some ⟨w1.heap.size, 0, none⟩) n n, .string ⟨#[]⟩, .string ⟨#[]⟩] 38) := ⟨_, rfl⟩
        rw [← hwG]
        have hG0 : wG.cell? ⟨w2.heap.size, 0, none⟩ = some (.string name) := by rw [hwG]; simp [go_sem]
        have hG11 : wG.cell? ⟨w2.heap.size, 11, none⟩ = some (.slice (some ⟨w.heap.size, 0, none⟩) n n) := by rw [hwG]; simp [go_sem]
        have hG12 : wG.cell? ⟨w2.heap.size, 12, none⟩ = some (.slice (some ⟨w1.heap.size, 0, none⟩) n n) := by rw [hwG]; simp [go_sem]
        have hbG : Below w2.heap.size w2 wG := by rw [hwG]; exact (Below.refl _ _).alloc (Nat.le_refl _) _
        have hPG := hP2.kept hbG
        have hTG := hT2.kept hbG
        have kG : Below w.heap.size w wG := k2.trans (hbG.mono k2.size)
        clear hwG hP1 hP2 hT2 hb1 hb2 k2 hbG
        refine (zzwrite3_any w2.heap.size w.heap.size n name ip port _ c2 (htb _ kG) hG0 hG11 hPG hp).mono ?_
        rintro e w3 ⟨R1, rfl, hL1, hb3⟩
        have k3 : Below w.heap.size w w3 := kG.trans (hb3.mono kG.size)
        go_wp2_with fail
        refine (zzwrite4_any w2.heap.size w1.heap.size n name ip port prio _ c2 (htb _ k3) ((hb3.cell (World.block_lt_of_cell? _ _ hG0)).trans hG0) ((hb3.cell (World.block_lt_of_cell? _ _ hG12)).trans hG12) (hTG.kept hb3) hp hq).mono ?_
        rintro e w6 ⟨R2, rfl, hL2, hb6⟩
        have k6 : Below w.heap.size w w6 := k3.trans (hb6.mono k3.size)
        have hL1 := hL1.kept hb6
        have hT6 := hT.kept k6
        clear hb3 hb6 hTG hPG hG0 hG11 hG12 kG k3 hT htab htb
        go_wp2_with fail
        go_loopw [10] (fun i wr => ∃ j : Nat, j ≤ n ∧ i = .int .i64 j ∧ ∃ d, wr = w6.drewN d) (fun i _ => n - (intOf i).toNat)
        case atStart => exact ⟨0, Nat.zero_le _, rfl, 0, rfl⟩
        case round =>
          clear hlt
          obtain ⟨j, hj, rfl, d, rfl⟩ := hrel
          by_cases hlt : j < n
          · have e := ha (by omega)
            subst e
            obtain ⟨t1, t2, t3⟩ := hT6 j hlt
            obtain ⟨q, l1, r0, r1, r2⟩ := hL1 j hlt
            obtain ⟨q', l2, s0, s1, s2, s3⟩ := hL2 j hlt
            obtain ⟨p1, p2⟩ := hp j
            obtain ⟨p3, p4⟩ := hq j
            have i1 : (j : Int) < (n : Int) := by omega
            clear hL1 hL2 hT6 hp hq ha
            go_wp2_with fail
            go_quiet (fail)
            go_wp2_with fail
            go_quiet ((first | (go_at_call_of 10 (Value.int IntKind.i64 (port j)); exact quiet_here2 (reads_back2 (port j) p1 p2 _)) | (go_at_call_of 10 (Value.int IntKind.i64 (prio j)); exact quiet_here2 (reads_back2 (prio j) p3 p4 _))))
            go_wp2
            go_roundw
            case rel => exact ⟨j + 1, by omega, by go_num, _, rfl⟩
            case measure => simp [intOf]; omega
          · go_wp2
            go_ret
            exact ⟨rfl, below_drewN k6 _⟩
end Go.Proofs.Qxb6608830aDoor
