import Derived.Test.Qxb6608866aChain
import Derived.LaidEqlPtr
import Derived.Lib.Builder
namespace Go.Proofs.Qxb6608866a
open Go.RowKit Go.Deep
set_option maxRecDepth 100000
set_option maxHeartbeats 1000000

theorem Try.info74 : (Try.prog.info? 74).map (fun i => i.size) = some 19 := by kernel_rfl

/-- The first that is no supported leafref. -/
theorem first_stop (z : Nat → Int) (s : Nat → ByteArray) (k : Nat) (h : sup (z k) (s k) = false) : ∃ j, j ≤ k ∧ (∀ i, i < j → sup (z i) (s i) = true) ∧ sup (z j) (s j) = false := by
  induction k using Nat.strongRecOn with
  | ind k ih =>
    by_cases hx : ∃ i, i < k ∧ sup (z i) (s i) = false
    · obtain ⟨i, hi, hs⟩ := hx
      obtain ⟨j, h1, h2, h3⟩ := ih i hi hs
      exact ⟨j, by omega, h2, h3⟩
    · refine ⟨k, Nat.le_refl _, fun i hi => ?_, h⟩
      cases hb : sup (z i) (s i) with
      | true => rfl
      | false => exact absurd ⟨i, hi, hb⟩ hx

theorem sup_parts {z : Int} {s : ByteArray} (h : sup z s = true) : z = 14 ∧ s.toList.isEmpty = true := by
  unfold sup at h
  rw [Bool.and_eq_true] at h
  exact ⟨by simpa using h.1, h.2⟩

/-- The chain's cells, as Resolved asks them. -/
theorem typed_reads {w wr w' : World} {k : Nat} {z : Nat → Int} {s : Nat → ByteArray} (H : Typed w wr k k (k - 1) z s) (hb : Below wr.heap.size wr w') :
    (∀ i, i < k → w'.cell? ⟨w.heap.size, i, none⟩ = some (.pointer (some ⟨w.heap.size + 1 + i, 0, none⟩))) ∧
    (∀ i, i < k → w'.cell? ⟨w.heap.size + 1 + i, 0, none⟩ = some (.int .i64 (z i)) ∧ w'.cell? ⟨w.heap.size + 1 + i, 18, none⟩ = some (.string (s i))) ∧
    (∀ i, i + 1 < k → w'.cell? ⟨w.heap.size + 1 + i, 11, none⟩ = some (.pointer (some ⟨w.heap.size + 1 + k + i, 0, none⟩)) ∧ w'.cell? ⟨w.heap.size + 1 + k + i, 7, none⟩ = some (.pointer (some ⟨w.heap.size + 1 + (i + 1), 0, none⟩))) := by
  have hs := H.size
  refine ⟨fun i hi => ?_, fun i hi => ?_, fun i hi => ?_⟩
  · have h := H.row.cell hi
    rw [if_pos hi] at h
    exact (hb.cell (World.block_lt_of_cell? _ _ h)).trans h
  · have h := (hb.block _ (by omega)).trans (H.typ i hi)
    exact ⟨by simp [World.cell?, h, typeObj], by simp [World.cell?, h, typeObj]⟩
  · have h := (hb.block _ (by omega)).trans (H.typ i (by omega))
    have h2 := (hb.block _ (by omega)).trans (H.node i (by omega))
    rw [if_pos (by omega)] at h
    exact ⟨by simp [World.cell?, h, typeObj], by simp [World.cell?, h2, nodeObj]⟩

def wrapP (W B : Nat) : Nat → Nat | 0 => W | i + 1 => B + i
def wrapN (N B : Nat) : Nat → Nat | 0 => N | i + 1 => B + i

/-- Resolved at the wrapper that is supported: as the chain's head. -/
theorem resolved_wrap (B k j0 N W : Nat) (zm : Int) (sm x : ByteArray) (w : World) (nm : ByteArray) (hx : x.toList.isEmpty = true)
    (hN : w.heap[N]? = some (nodeObj (.pointer (some ⟨B, 0, none⟩)))) (hW : w.heap[W]? = some (typeObj 14 nm x (.pointer (some ⟨N, 0, none⟩))))
    (hk : ∀ i, i < j0 → w.cell? ⟨B + i, 0, none⟩ = some (.int .i64 14) ∧ (∃ s : ByteArray, s.toList.isEmpty = true ∧ w.cell? ⟨B + i, 18, none⟩ = some (.string s)) ∧ w.cell? ⟨B + i, 11, none⟩ = some (.pointer (some ⟨B + k + i, 0, none⟩)) ∧ w.cell? ⟨B + k + i, 7, none⟩ = some (.pointer (some ⟨B + (i + 1), 0, none⟩)))
    (hz : w.cell? ⟨B + j0, 0, none⟩ = some (.int .i64 zm)) (hs : w.cell? ⟨B + j0, 18, none⟩ = some (.string sm)) (hsup : sup zm sm = false) :
    Calls Try.prog 28 #[.pointer (some ⟨W, 0, none⟩)] w fun e w' => e = .returned (.pointer (some ⟨B + j0, 0, none⟩)) ∧ w = w' := by
  refine resolved_any (wrapP W B) (wrapN N (B + k)) (j0 + 1) zm sm w (fun i hi => ?_) hz hs hsup
  match i, hi with
  | 0, _ =>
    refine ⟨by simp [wrapP, World.cell?, hW, typeObj], ⟨x, hx, by simp [wrapP, World.cell?, hW, typeObj]⟩, by simp [wrapP, wrapN, World.cell?, hW, typeObj], ?_⟩
    show w.cell? ⟨N, 7, none⟩ = some (.pointer (some ⟨B + 0, 0, none⟩))
    simp [World.cell?, hN, nodeObj]
  | i + 1, hi => exact hk i (by omega)

/-- Resolved at a type that is not supported: itself. -/
theorem resolved_self (W : Nat) (z : Int) (s nm : ByteArray) (t : Value) (w : World) (hW : w.heap[W]? = some (typeObj z nm s t)) (hsup : sup z s = false) :
    Calls Try.prog 28 #[.pointer (some ⟨W, 0, none⟩)] w fun e w' => e = .returned (.pointer (some ⟨W, 0, none⟩)) ∧ w = w' :=
  resolved_any (fun _ => W) (fun _ => W) 0 z s w (fun i hi => absurd hi (Nat.not_lt_zero _)) (by simp [World.cell?, hW, typeObj]) (by simp [World.cell?, hW, typeObj]) hsup

theorem res_top (a0 : Option Addr) (b0 off0 n0 cap0 : Nat) (ha0 : 0 < n0 → a0 = some ⟨b0, off0, none⟩) (z : Nat → Int) (a : Option Addr) (b off n cap : Nat) (ha : 0 < n → a = some ⟨b, off, none⟩) (s : Nat → ByteArray) (x : ByteArray) (w : World)
    (hZ : Nums w b0 off0 n0 z) (hS : Strs w b off n s) (hn0 : n0 ≤ maxLen) (hn : n ≤ maxLen) (hs : ∀ i, (s i).size ≤ maxLen) (hx : x.size ≤ maxLen) :
    Calls Try.prog 7 #[.slice a0 n0 cap0, .slice a n cap, .string x] w fun e w' => e = .returned (.bool true) ∧ Below w.heap.size w w' := by
  have hn0' := hn0
  have hn' := hn
  have hx' := hx
  unfold maxLen at hn0' hn' hx'
  go_enter Try.func7, Try.ntmps7
  go_wp2_with fail
  refine (bytes24_any a0 n0 cap0 a b off n cap ha s x w hS hn0 hn hs hx).mono ?_
  rintro e w1 ⟨⟨xb, rfl⟩, rfl⟩
  cases xb with
  | false =>
    go_wp2
    go_ret
    exact ⟨rfl, Below.refl _ _⟩
  | true =>
    by_cases c0 : n0 ≤ 65536
    case neg =>
      have c0' : (65536 : Int) < (n0 : Int) := by omega
      go_wp2
      go_ret
      exact ⟨rfl, Below.refl _ _⟩
    have c0' : ¬ (65536 : Int) < (n0 : Int) := by omega
    by_cases c1 : n ≤ 65536
    case neg =>
      have c1' : (65536 : Int) < (n : Int) := by omega
      go_wp2
      go_ret
      exact ⟨rfl, Below.refl _ _⟩
    have c1' : ¬ (65536 : Int) < (n : Int) := by omega
    by_cases c2 : x.size ≤ 262144
    case neg =>
      have c2' : (262144 : Int) < (x.size : Int) := by omega
      go_wp2
      go_ret
      exact ⟨rfl, Below.refl _ _⟩
    have c2' : ¬ (262144 : Int) < (x.size : Int) := by omega
    go_wp2_with fail
    refine (budget_any a b off n cap ha s _ w hS hn hs (by omega) (by omega)).mono ?_
    rintro e w1 ⟨⟨r, hr0, hr1, rfl⟩, rfl⟩
    by_cases c3 : r < 0
    · go_wp2
      go_ret
      exact ⟨rfl, Below.refl _ _⟩
    obtain ⟨k, hk⟩ : ∃ k, Hid (min n0 n = k) := ⟨_, rfl⟩
    have hk0 : k ≤ n0 := by have := hk.out; omega
    have hk1 : k ≤ n := by have := hk.out; omega
    go_wp2_with fail
    refine (chainLen_k _ _ _ _ _ _ k hk _).mono ?_
    rintro e w1 ⟨rfl, rfl⟩
    by_cases c4 : k = 0
    · have c4' : ((k : Int) == 0) = true := by simp [c4]
      clear c4
      go_wp2
      go_ret
      exact ⟨rfl, Below.refl _ _⟩
    have c4' : ((k : Int) == 0) = false := by simp [c4]
    have hpos : 0 < k := by omega
    have e0 := ha0 (by omega)
    have e1 := ha (by omega)
    obtain ⟨l, hl⟩ : ∃ l, Hid (l + 1 = k) := ⟨k - 1, by show k - 1 + 1 = k; omega⟩
    have hlk : l < k := by have := hl.out; omega
    have l1 := hZ l (by omega)
    have l2 := hS l (by omega)
    have hcast : (k : Int) - 1 = (l : Int) := by have := hl.out; omega
    have t1 : (l : Int) < (n0 : Int) := by omega
    have t2 : (l : Int) < (n : Int) := by omega
    subst e0 e1
    clear ha0 ha c4 hs hx hn hn0 hx' hn' hn0'
    go_wp2_with fail
    go_quiet ((go_at_call 26; exact Calls.quiet_of_same (sup_any _ _ _)))
    cases hsup : sup (z l) (s l) with
    | true =>
      go_wp2
      go_ret
      exact ⟨rfl, below_drewN (Below.refl _ _) _⟩
    | false =>
      obtain ⟨j0, hj0, hall, hstop⟩ := first_stop z s l hsup
      have hjk : j0 < k := by omega
      obtain ⟨wq, hwq⟩ : ∃ wq, wq = w.drewN nq := ⟨_, rfl⟩
      have hZq : Nums wq b0 off0 n0 z := by rw [hwq]; exact hZ
      have hSq : Strs wq b off n s := by rw [hwq]; exact hS
      have hbq : Below w.heap.size w wq := by rw [hwq]; exact below_drewN (Below.refl _ _) _
      rw [← hwq]
      clear hwq l1 l2 hZ hS hcast t1 t2 hl
      go_wp2_with fail
      refine (typeChain_any _ b0 off0 n0 cap0 (fun _ => rfl) z _ b off n cap (fun _ => rfl) s k hk wq hZq hSq hk0 hk1 (by omega) hpos).mono ?_
      rintro e w2 ⟨rfl, H⟩
      have r0 := H.row.cell hpos
      rw [if_pos hpos, Nat.add_zero] at r0
      have t3 : (0 : Int) < (k : Int) := by omega
      have hlt2 : wq.heap.size < w2.heap.size := H.row.lt
      go_wp2_with fail
      obtain ⟨wG, hwG⟩ : ∃ x', x' = (w2.alloc (nodeObj (.pointer (some ⟨wq.heap.size + 1, 0, none⟩)))).alloc (typeObj 14 ⟨#[119]⟩ x (.pointer (some ⟨w2.heap.size, 0, none⟩))) := ⟨_, rfl⟩
      have hbG : Below w2.heap.size w2 wG := by rw [hwG]; exact ((Below.refl _ _).alloc (Nat.le_refl _) _).alloc (by simp) _
      obtain ⟨f1, f2, f3⟩ := typed_reads H hbG
      have hN : wG.heap[w2.heap.size]? = some (nodeObj (.pointer (some ⟨wq.heap.size + 1, 0, none⟩))) := by
        rw [hwG, Below.heap_alloc _ _ _ (by simp)]; exact blk_alloc_new _ _
      have hT : wG.heap[w2.heap.size + 1]? = some (typeObj 14 ⟨#[119]⟩ x (.pointer (some ⟨w2.heap.size, 0, none⟩))) := by
        have h := blk_alloc_new (w2.alloc (nodeObj (.pointer (some ⟨wq.heap.size + 1, 0, none⟩)))) (typeObj 14 ⟨#[119]⟩ x (.pointer (some ⟨w2.heap.size, 0, none⟩)))
        rw [World.size_alloc] at h
        rw [hwG]; exact h
      have hchain : ∀ i, i < j0 → wG.cell? ⟨wq.heap.size + 1 + i, 0, none⟩ = some (.int .i64 14) ∧ (∃ s : ByteArray, s.toList.isEmpty = true ∧ wG.cell? ⟨wq.heap.size + 1 + i, 18, none⟩ = some (.string s)) ∧ wG.cell? ⟨wq.heap.size + 1 + i, 11, none⟩ = some (.pointer (some ⟨wq.heap.size + 1 + k + i, 0, none⟩)) ∧ wG.cell? ⟨wq.heap.size + 1 + k + i, 7, none⟩ = some (.pointer (some ⟨wq.heap.size + 1 + (i + 1), 0, none⟩)) := fun i hi => by
        obtain ⟨h14, hem⟩ := sup_parts (hall i hi)
        obtain ⟨g1, g2⟩ := f2 i (by omega)
        obtain ⟨g3, g4⟩ := f3 i (by omega)
        rw [h14] at g1
        exact ⟨g1, ⟨_, hem, g2⟩, g3, g4⟩
      have kG : Below w.heap.size w wG := by
        have h1 := H.below
        have h2 := hbq.trans (h1.mono hbq.size)
        exact h2.trans (hbG.mono h2.size)
      have hZG := hZq.kept (H.below.trans (hbG.mono H.below.size))
      have hSG := hSq.kept (H.below.trans (hbG.mono H.below.size))
      change Calls Try.prog 28 _ ((w2.alloc (nodeObj (.pointer (some ⟨wq.heap.size + 1, 0, none⟩)))).alloc (typeObj 14 ⟨#[119]⟩ x (.pointer (some ⟨w2.heap.size, 0, none⟩)))) _
      rw [← hwG]
      clear hwG r0 H hZq hSq hbG
      refine (resolved_any (fun i => wq.heap.size + 1 + i) (fun i => wq.heap.size + 1 + k + i) j0 (z j0) (s j0) wG hchain (f2 j0 hjk).1 (f2 j0 hjk).2 hstop).mono ?_
      rintro e w3 ⟨rfl, rfl⟩
      have hjr := f1 j0 hjk
      have t4 : (j0 : Int) < (k : Int) := by omega
      have hdr : ∀ d, Below w.heap.size w (wG.drewN d) := fun d => below_drewN kG d
      obtain ⟨i74, hi74, _⟩ := Option.map_eq_some_iff.1 Try.info74
      have hneq := fun (w : World) (a : Addr) => Lib.run_neq_ptr_same (P := Try.prog) w (tp := 48) a Try.underlying48 hi74
      have heql := fun (w : World) (a : Addr) => run_eql_ptr_same (P := Try.prog) w (tp := 48) a Try.underlying48 hi74
      cases hxe : x.toList.isEmpty with
      | true =>
        go_wp2_with fail
        refine (resolved_wrap (wq.heap.size + 1) k j0 w2.heap.size (w2.heap.size + 1) (z j0) (s j0) x wG ⟨#[119]⟩ hxe hN hT hchain (f2 j0 hjk).1 (f2 j0 hjk).2 hstop).mono ?_
        rintro e w3 ⟨rfl, rfl⟩
        clear hN hT f1 f2 f3 hchain
        go_wp2_with fail
        refine (firstStop_any _ b0 off0 n0 cap0 (fun _ => rfl) z _ b off n cap (fun _ => rfl) s k j0 wG hZG hSG hk0 hk1 (by omega) hjk hall hstop).mono ?_
        rintro e w4 ⟨rfl, d, rfl⟩
        clear hall hstop hZG hSG
        go_wp2
        go_ret
        exact ⟨rfl, hdr _⟩
      | false =>
        have hsw : sup 14 x = false := by simp [sup, hxe]
        go_wp2_with fail
        refine (resolved_self (w2.heap.size + 1) 14 x ⟨#[119]⟩ _ wG hT hsw).mono ?_
        rintro e w3 ⟨rfl, rfl⟩
        clear hN hT f1 f2 f3 hchain hsw
        go_wp2_with fail
        refine (firstStop_any _ b0 off0 n0 cap0 (fun _ => rfl) z _ b off n cap (fun _ => rfl) s k j0 wG hZG hSG hk0 hk1 (by omega) hjk hall hstop).mono ?_
        rintro e w4 ⟨rfl, d, rfl⟩
        clear hall hstop hZG hSG
        go_wp2
        go_ret
        exact ⟨rfl, hdr _⟩

end Go.Proofs.Qxb6608866a
