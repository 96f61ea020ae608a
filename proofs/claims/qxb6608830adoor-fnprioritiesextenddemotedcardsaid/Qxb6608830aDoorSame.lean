import Derived.Test.Qxb6608830aDoorWrite
namespace Go.Proofs.Qxb6608830aDoor
open Go.RowKit Go.Deep
set_option maxRecDepth 100000
set_option maxHeartbeats 1000000

theorem zzwrite4_any (G B m : Nat) (name : ByteArray) (ip : Nat → ByteArray) (port prio : Nat → Int) (w : World) (hm : m ≤ 65536)
    (htab : Lib.TabIs Tryd.prog w tabName .u64 Lib.pow10Tab) (hG0 : w.cell? ⟨G, 0, none⟩ = some (.string name)) (hG12 : w.cell? ⟨G, 12, none⟩ = some (.slice (some ⟨B, 0, none⟩) m m)) (hT : Trip w B 0 m ip port prio)
    (hp : ∀ i, -9223372036854775808 ≤ port i ∧ port i ≤ 9223372036854775807) (hq : ∀ i, -9223372036854775808 ≤ prio i ∧ prio i ≤ 9223372036854775807) :
    Calls Tryd.prog 12 #[.pointer (some ⟨G, 0, none⟩)] w fun e w' => ∃ R, e = .returned (.slice (some ⟨R, 0, none⟩) m m) ∧ Lines4 w' R m name ip port prio ∧ Below w.heap.size w w' := by
  go_enter Tryd.func12, Tryd.ntmps12
  go_wp2_with fail
  refine (write4_any G B m name ip port prio w hm htab hG0 hG12 hT hp hq).mono ?_
  rintro e w1 ⟨R, rfl, hL, hb⟩
  go_wp2
  go_ret
  exact ⟨R, rfl, hL, hb⟩

/-- sameLine at two lines of the same n words. -/
theorem sameLine_any (q q' n c c' : Nat) (s : Nat → ByteArray) (w : World) (hn : n ≤ 16) (h : ∀ i, i < n → w.cell? ⟨q, i, none⟩ = some (.string (s i))) (h' : ∀ i, i < n → w.cell? ⟨q', i, none⟩ = some (.string (s i))) :
    Calls Tryd.prog 9 #[.slice (some ⟨q, 0, none⟩) n c, .slice (some ⟨q', 0, none⟩) n c'] w fun e w' => e = .returned (.bool true) ∧ ∃ d, w' = w.drewN d := by
  go_enter Tryd.func9, Tryd.ntmps9
  go_wp2
  go_loopw [5] (fun i wr => ∃ k : Nat, k ≤ n ∧ i = .int .i64 k ∧ ∃ d, wr = w.drewN d) (fun i _ => n - (intOf i).toNat)
  case atStart => exact ⟨0, Nat.zero_le _, rfl, 0, rfl⟩
  case round =>
    obtain ⟨k, hk, rfl, d, rfl⟩ := hrel
    by_cases hlt : k < n
    · have e1 := h k hlt
      have e2 := h' k hlt
      have t1 : (k : Int) < (n : Int) := by omega
      go_wp2
      go_quiet (fail)
      go_wp2
      go_roundw
      case rel => exact ⟨k + 1, by omega, by go_num, _, rfl⟩
      case measure => simp [intOf]; omega
    · go_wp2
      go_ret
      exact ⟨rfl, d, rfl⟩

/-- The words of a line of four. -/
def word4 (name ip : ByteArray) (port prio : Int) (i : Nat) : ByteArray := match i with | 0 => name | 1 => ip | 2 => ⟨(Lib.itoa port).toArray⟩ | _ => ⟨(Lib.itoa prio).toArray⟩

theorem Line4.word {w : World} {q : Nat} {name ip : ByteArray} {port prio : Int} (h : Line4 w q name ip port prio) : ∀ i, i < 4 → w.cell? ⟨q, i, none⟩ = some (.string (word4 name ip port prio i)) := by
  intro i hi
  match i, hi with
  | 0, _ => exact h.1
  | 1, _ => exact h.2.1
  | 2, _ => exact h.2.2.1
  | 3, _ => exact h.2.2.2

theorem same4 (q q' : Nat) (name ip : ByteArray) (port prio : Int) (w : World) (h : Line4 w q name ip port prio) (h' : Line4 w q' name ip port prio) :
    Calls Tryd.prog 9 #[.slice (some ⟨q, 0, none⟩) 4 4, .slice (some ⟨q', 0, none⟩) 4 4] w fun e w' => e = .returned (.bool true) ∧ ∃ d, w' = w.drewN d :=
  sameLine_any q q' 4 4 4 _ w (by omega) h.word h'.word

theorem Lines4.kept {w w' : World} {R k : Nat} {name : ByteArray} {ip : Nat → ByteArray} {port prio : Nat → Int} (h : Lines4 w R k name ip port prio) (hb : Below w.heap.size w w') : Lines4 w' R k name ip port prio := fun j hj => by
  obtain ⟨q, hc, hq⟩ := h j hj
  exact ⟨q, (hb.cell (World.block_lt_of_cell? _ _ hc)).trans hc, hq.kept (hb.block _ hq.lt)⟩

/-- toPriorities from the start. -/
theorem toPrios_left (a : Option Addr) (b off n cap m : Nat) (ha : 0 < n → a = some ⟨b, off, none⟩) (ip : Nat → ByteArray) (port prio : Nat → Int) (w : World) (hT : Trip w b off n ip port prio) (hfm : m ≤ n) (hn : n ≤ 65536) :
    Calls Tryd.prog 13 #[.slice a n cap, .int .i64 0, .int .i64 (m : Int)] w fun e w' =>
      e = .returned (.slice (some ⟨w.heap.size, 0, none⟩) m m) ∧ Trip w' w.heap.size 0 m ip port prio ∧ Below w.heap.size w w' := by
  have h := toPrios_any a b off n cap 0 m ha ip port prio w hT (by omega) hn
  simp only [Nat.zero_add] at h
  exact h

/-- toPriorities to the end. -/
theorem toPrios_right (a : Option Addr) (b off n cap c : Nat) (ha : 0 < n → a = some ⟨b, off, none⟩) (ip : Nat → ByteArray) (port prio : Nat → Int) (w : World) (hT : Trip w b off n ip port prio) (hc : c ≤ n) (hn : n ≤ 65536) :
    Calls Tryd.prog 13 #[.slice a n cap, .int .i64 (c : Int), .int .i64 (n : Int)] w fun e w' =>
      e = .returned (.slice (some ⟨w.heap.size, 0, none⟩) (n - c) (n - c)) ∧ Trip w' w.heap.size 0 (n - c) (fun i => ip (c + i)) (fun i => port (c + i)) (fun i => prio (c + i)) ∧ Below w.heap.size w w' := by
  have h := toPrios_any a b off n cap c (n - c) ha ip port prio w hT (by omega) hn
  rw [show c + (n - c) = n by omega] at h
  exact h
end Go.Proofs.Qxb6608830aDoor
