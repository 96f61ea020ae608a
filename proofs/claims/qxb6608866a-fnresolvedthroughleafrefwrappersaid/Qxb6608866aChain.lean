import Derived.Test.Qxb6608866aResIn
import Derived.Deep.RegionHeld3
namespace Go.Proofs.Qxb6608866a
open Go.RowKit Go.Deep
set_option maxRecDepth 100000
set_option maxHeartbeats 1000000

theorem Try.info48 : (Try.prog.info? 48).map (fun i => (i.zero, i.size, i.bytes)) = some (some (.pointer none), 1, 8) := by kernel_rfl

/-- A type's block. -/
def typeObj (z : Int) (nm : ByteArray) (s : ByteArray) (t : Value) : Obj :=
  .cells #[.int .i64 z, .string nm, .slice none 0 0, .int .i64 0, .slice none 0 0, .int .i64 0, .int .i64 0, .map none, .slice none 0 0, .slice none 0 0, .map none, t, .bool false, .pointer none, .slice none 0 0, .slice none 0 0, .map none, .map none, .string s] 74

/-- A node's block that points at a type. -/
def nodeObj (t : Value) : Obj :=
  .cells #[.string ⟨#[]⟩, .string ⟨#[]⟩, .int .i64 0, .int .i8 0, .pointer none, .string ⟨#[]⟩, .bool false, t, .slice none 0 0, .slice none 0 0, .slice none 0 0, .slice none 0 0, .bool false, .bool false, .int .i64 0, .int .i64 0, .slice none 0 0, .slice none 0 0, .slice none 0 0, .slice none 0 0, .pointer none, .int .i64 0, .pointer none, .pointer none, .map none, .map none, .map none, .map none, .slice none 0 0] 57

/-- The first loop of zzTypeChain, j types made; the second, j nodes made. -/
structure Typed (w wr : World) (k j h : Nat) (z : Nat → Int) (s : Nat → ByteArray) : Prop where
  below : Below w.heap.size w wr
  size : wr.heap.size = w.heap.size + 1 + j + h
  row : wr.rowIs w.heap.size 48 k (fun i => if i < j then .pointer (some ⟨w.heap.size + 1 + i, 0, none⟩) else .pointer none)
  typ : ∀ i, i < j → wr.heap[w.heap.size + 1 + i]? = some (typeObj (z i) ⟨#[116]⟩ (s i) (if i < h then .pointer (some ⟨w.heap.size + 1 + j + i, 0, none⟩) else .pointer none))
  node : ∀ i, i < h → wr.heap[w.heap.size + 1 + j + i]? = some (nodeObj (.pointer (some ⟨w.heap.size + 1 + (i + 1), 0, none⟩)))

theorem Typed.drew {w wr : World} {k j h : Nat} {z : Nat → Int} {s : Nat → ByteArray} (H : Typed w wr k j h z s) : Typed w wr.drew k j h z s := ⟨H.below.drew, H.size, H.row, H.typ, H.node⟩

theorem typed_start (w : World) (k : Nat) (z : Nat → Int) (s : Nat → ByteArray) : Typed w (w.alloc (.cells (madeCells #[.pointer none] k) 48)) k 0 0 z s :=
  ⟨(Below.refl _ _).alloc (Nat.le_refl _) _, by simp, (World.rowIs_made w _ k 48).congr (fun j _ => by simp), fun i hi => absurd hi (Nat.not_lt_zero _), fun i hi => absurd hi (Nat.not_lt_zero _)⟩

theorem typed_step {w wr : World} {k j : Nat} {z : Nat → Int} {s : Nat → ByteArray} (h : Typed w wr k j 0 z s) :
    Typed w ((wr.setCell ⟨w.heap.size, j, none⟩ (.pointer (some ⟨wr.heap.size, 0, none⟩))).alloc (typeObj (z j) ⟨#[116]⟩ (s j) (.pointer none))) k (j + 1) 0 z s := by
  have hs := h.size
  refine ⟨(h.below.setCell (Nat.le_refl _) _).alloc (by simp; omega) _, by simp; omega, ((h.row.set j _).alloc _).congr (fun i _ => ?_), fun i hi => ?_, fun i hi => absurd hi (Nat.not_lt_zero _)⟩
  · show (if i = j then _ else if i < j then _ else _) = _
    by_cases e : i = j
    · subst e; simp [hs]
    · rw [if_neg e]
      by_cases hlt : i < j
      · rw [if_pos hlt, if_pos (by omega)]
      · rw [if_neg hlt, if_neg (by omega)]
  · rw [if_neg (Nat.not_lt_zero _)]
    by_cases e : i = j
    · subst e
      have hs' : w.heap.size + 1 + i = (wr.setCell ⟨w.heap.size, i, none⟩ (.pointer (some ⟨wr.heap.size, 0, none⟩))).heap.size := by simp; omega
      rw [hs']
      exact blk_alloc_new _ _
    · rw [Below.heap_alloc _ _ _ (by simp; omega), Below.heap_setCell _ _ _ _ (by show w.heap.size + 1 + i ≠ w.heap.size; omega)]
      have := h.typ i (by omega)
      rwa [if_neg (Nat.not_lt_zero _)] at this

theorem node_step {w wr : World} {k h : Nat} {z : Nat → Int} {s : Nat → ByteArray} (H : Typed w wr k k h z s) (hh : h + 1 < k) :
    Typed w ((wr.setCell ⟨w.heap.size + 1 + h, 11, none⟩ (.pointer (some ⟨wr.heap.size, 0, none⟩))).alloc (nodeObj (.pointer (some ⟨w.heap.size + 1 + (h + 1), 0, none⟩)))) k k (h + 1) z s := by
  have hs := H.size
  refine ⟨(H.below.setCell (by show w.heap.size ≤ w.heap.size + 1 + h; omega) _).alloc (by simp; omega) _, by simp; omega, (H.row.setOther (by show w.heap.size ≠ w.heap.size + 1 + h; omega) _).alloc _, fun i hi => ?_, fun i hi => ?_⟩
  · rw [Below.heap_alloc _ _ _ (by simp; omega)]
    by_cases e : i = h
    · subst e
      have h0 := H.typ i hi
      rw [if_neg (Nat.lt_irrefl _)] at h0
      rw [heap_setCell_same wr _ 11 _ 74 _ h0, if_pos (by omega), hs]
      rfl
    · rw [Below.heap_setCell _ _ _ _ (by show w.heap.size + 1 + i ≠ w.heap.size + 1 + h; omega), H.typ i hi]
      by_cases hlt : i < h
      · rw [if_pos hlt, if_pos (by omega)]
      · rw [if_neg hlt, if_neg (by omega)]
  · by_cases e : i = h
    · subst e
      have hs' : w.heap.size + 1 + k + i = (wr.setCell ⟨w.heap.size + 1 + i, 11, none⟩ (.pointer (some ⟨wr.heap.size, 0, none⟩))).heap.size := by simp; omega
      rw [hs']
      exact blk_alloc_new _ _
    · rw [Below.heap_alloc _ _ _ (by simp; omega), Below.heap_setCell _ _ _ _ (by show w.heap.size + 1 + k + i ≠ w.heap.size + 1 + h; omega)]
      exact H.node i (by omega)

/-- zzChainLen, its answer under a name. -/
theorem chainLen_k (a0 : Option Addr) (n0 cap0 : Nat) (a : Option Addr) (n cap k : Nat) (hk : Hid (min n0 n = k)) (w : World) :
    Calls Try.prog 25 #[.slice a0 n0 cap0, .slice a n cap] w fun e w' => e = .returned (.int .i64 (k : Int)) ∧ w = w' := by
  have h := chainLen_any a0 n0 cap0 a n cap w
  rw [hk.out] at h
  exact h

/-- zzTypeChain. -/
theorem typeChain_any (a0 : Option Addr) (b0 off0 n0 cap0 : Nat) (ha0 : 0 < n0 → a0 = some ⟨b0, off0, none⟩) (z : Nat → Int) (a : Option Addr) (b off n cap : Nat) (ha : 0 < n → a = some ⟨b, off, none⟩) (s : Nat → ByteArray) (k : Nat) (hk : Hid (min n0 n = k)) (w : World)
    (hZ : Nums w b0 off0 n0 z) (hS : Strs w b off n s) (hk0 : k ≤ n0) (hk1 : k ≤ n) (hkk : k ≤ 65536) (hpos : 0 < k) :
    Calls Try.prog 27 #[.slice a0 n0 cap0, .slice a n cap] w fun e w' => e = .returned (.slice (some ⟨w.heap.size, 0, none⟩) k k) ∧ Typed w w' k k (k - 1) z s := by
  have hmk := run_make_row' (P := Try.prog) 63 48 (.pointer none) 8 Try.underlying63 Try.info48 rfl .i64 .i64 k (by omega) (by omega)
  have e0 := ha0 (by omega)
  have e1 := ha (by omega)
  subst e0 e1
  clear ha0 ha
  go_enter Try.func27, Try.ntmps27
  go_wp2_with (go_at_call 25; refine (chainLen_k _ _ _ _ _ _ k hk _).mono ?_; rintro e w' ⟨rfl, rfl⟩)
  go_loopw [7] (fun i wr => ∃ j : Nat, j ≤ k ∧ i = .int .i64 j ∧ Typed w wr k j 0 z s) (fun i _ => k - (intOf i).toNat)
  case atStart => exact ⟨0, Nat.zero_le _, rfl, typed_start w k z s⟩
  case round =>
    obtain ⟨j, hj, rfl, H⟩ := hrel
    by_cases hlt : j < k
    · have h1 := hZ j (by omega)
      have h2 := hS j (by omega)
      have hb0 : b0 < w.heap.size := World.block_lt_of_cell? _ _ h1
      have hb1 : b < w.heap.size := World.block_lt_of_cell? _ _ h2
      have g1 := (H.below.cell (p := ⟨b0, off0 + j, none⟩) hb0).trans h1
      have g2 := (H.below.cell (p := ⟨b, off + j, none⟩) hb1).trans h2
      have c1 := H.row.cell hlt
      rw [if_neg (Nat.lt_irrefl _)] at c1
      have z1 := H.row.frozen j
      have hlt2 : w.heap.size < wr.heap.size := by rw [H.size]; omega
      have t1 : (j : Int) < (k : Int) := by omega
      have t2 : (j : Int) < (n0 : Int) := by omega
      have t3 : (j : Int) < (n : Int) := by omega
      clear h1 h2 hmk
      go_wp2
      go_region
      go_wp2
      go_roundw
      case rel => exact ⟨j + 1, by omega, by go_num, (typed_step H).drew⟩
      case measure => simp [intOf]; omega
    · have e : j = k := by omega
      subst e
      clear hmk
      go_wp2
      go_loopw [8] (fun i wr => ∃ h : Nat, h + 1 ≤ j ∧ i = .int .i64 h ∧ Typed w wr j j h z s) (fun i _ => j - (intOf i).toNat)
      case atStart => exact ⟨0, by omega, rfl, H⟩
      case round =>
        clear H
        obtain ⟨h, hh, rfl, H⟩ := hrel
        by_cases hlt3 : h + 1 < j
        · have t1 : (h : Int) + 1 < (j : Int) := by omega
          have t2 : (h : Int) < (j : Int) := by omega
          have c1 := H.row.cell (i := h) (by omega)
          have c2 := H.row.cell (i := h + 1) (by omega)
          rw [if_pos (by omega)] at c1 c2
          have y0 := H.typ h (by omega)
          rw [if_neg (Nat.lt_irrefl _)] at y0
          have y1 : wr.cell? ⟨w.heap.size + 1 + h, 11, none⟩ = some (.pointer none) := by simp [World.cell?, y0, typeObj]
          have y2 : wr.frozen? ⟨w.heap.size + 1 + h, 11, none⟩ = false := by simp [World.frozen?, y0, typeObj]
          have hlt2 : w.heap.size + 1 + h < wr.heap.size := by rw [H.size]; omega
          have hlt4 : w.heap.size < wr.heap.size := by omega
          clear y0 hZ hS
          go_wp2
          go_region
          go_wp2
          go_roundw
          case rel => exact ⟨h + 1, by omega, by go_num, (node_step H hlt3).drew⟩
          case measure => simp [intOf]; omega
        · have e : h = j - 1 := by omega
          have t1 : ¬ (h : Int) + 1 < (j : Int) := by omega
          subst e
          go_wp2
          go_ret
          exact ⟨rfl, H⟩

end Go.Proofs.Qxb6608866a
