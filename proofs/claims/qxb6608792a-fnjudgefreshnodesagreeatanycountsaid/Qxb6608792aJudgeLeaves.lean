import Derived.Test.Qxb6608792aProg
import Derived.WalkKit
import Derived.WalkSpells
import Derived.WalkLawsBesides
import Derived.Deep.OwnRows
import Derived.Below
import Derived.OpenShut
import Derived.Deep.QuietTactic
import Derived.BigQuiet
namespace Go.Proofs.Qxb6608792a
open Go.RowKit Go.Deep

theorem Try.infoP47 : (Try.prog.info? 47).map (fun i => (i.zero, i.size, i.bytes)) = some (some (.pointer none), 1, 8) := by kernel_rfl
theorem Try.infoI21 : (Try.prog.info? 21).map (fun i => (i.zero, i.size, i.bytes)) = some (some (.int .i32 0), 1, 4) := by kernel_rfl
theorem Try.infoB4 : (Try.prog.info? 4).map (fun i => (i.zero, i.size, i.bytes)) = some (some (.bool false), 1, 1) := by kernel_rfl
theorem Try.infoS9 : (Try.prog.info? 9).map (fun i => (i.zero, i.size, i.bytes)) = some (some (.string ByteArray.empty), 1, 16) := by kernel_rfl

set_option maxRecDepth 100000
set_option maxHeartbeats 400000

/-- (*Node).Liked at a node that likes nothing. -/
theorem liked_nil (p : Nat) (w : World) (h : w.cell? ⟨p, 0, none⟩ = some (.slice none 0 0)) :
    Calls Try.prog 20 #[.pointer (some ⟨p, 0, none⟩)] w fun e w' => e = .returned (.slice none 0 0) ∧ w = w' := by
  go_enter Try.func20, Try.ntmps20
  go_wp2
  go_ret
  exact ⟨rfl, rfl⟩

/-- (*Node).Settled at a node that has settled nothing. -/
theorem settled_no (p : Nat) (w : World) (h : w.cell? ⟨p, 3, none⟩ = some (.bool false)) :
    Calls Try.prog 25 #[.pointer (some ⟨p, 0, none⟩)] w fun e w' => e = .returned (.bool false) ∧ w = w' := by
  go_enter Try.func25, Try.ntmps25
  go_wp2
  go_ret
  exact ⟨rfl, rfl⟩

/-- hashOf at nil. -/
theorem hash_nil (w : World) : Calls Try.prog 21 #[.slice none 0 0] w fun e w' => e = .returned (.int .u64 0) ∧ w = w' := by
  go_enter Try.func21, Try.ntmps21
  go_wp2
  refine wp_loop_rounds 1 ?_
  rw [rounds_succ]
  go_wp2
  go_ret
  exact ⟨rfl, rfl⟩

/-- slices.Equal at nil and nil. -/
theorem equal_nil (w : World) : Calls Try.prog 22 #[.slice none 0 0, .slice none 0 0] w fun e w' => e = .returned (.bool true) ∧ w = w' := by
  go_enter Try.func22, Try.ntmps22
  go_wp2
  refine wp_loop_rounds 1 ?_
  rw [rounds_succ]
  go_wp2
  go_ret
  exact ⟨rfl, rfl⟩

/-- (*Graph).Len of an empty graph. -/
theorem glen_nil (G : Nat) (w : World) (h : w.cell? ⟨G, 0, none⟩ = some (.slice none 0 0)) :
    Calls Try.prog 24 #[.pointer (some ⟨G, 0, none⟩)] w fun e w' => e = .returned (.int .i64 0) ∧ w = w' := by
  go_enter Try.func24, Try.ntmps24
  go_wp2
  go_ret
  exact ⟨rfl, rfl⟩

/-- (*setClasses).set at the one class of the empty set. -/
theorem set_nil (C K cap : Nat) (w : World) (h0 : w.cell? ⟨C, 0, none⟩ = some (.slice none 0 0)) (h1 : w.cell? ⟨C, 1, none⟩ = some (.slice (some ⟨K, 0, none⟩) 1 cap))
    (k0 : w.cell? ⟨K, 0, none⟩ = some (.int .i64 0)) (k1 : w.cell? ⟨K, 1, none⟩ = some (.int .i64 0)) :
    Calls Try.prog 23 #[.pointer (some ⟨C, 0, none⟩), .int .i32 0] w fun e w' => e = .returned (.slice none 0 0) ∧ ∃ n, w' = w.drewN n := by
  go_enter Try.func23, Try.ntmps23
  go_wp2
  go_quiet (fail)
  go_wp2
  go_ret
  exact ⟨rfl, _, rfl⟩

theorem insertion_none (g cap : Nat) (w : World) :
    Calls Try.prog 42 #[.slice (some ⟨g, 0, none⟩) 0 cap, .int .i64 0, .int .i64 0] w fun e w' => e = .returned (.tuple #[]) ∧ w = w' := by
  go_enter Try.func42, Try.ntmps42
  go_wp2
  refine wp_loop_rounds 1 ?_
  rw [rounds_succ]
  go_wp2
  go_end0
  exact ⟨rfl, rfl⟩

theorem pdq_none (g cap : Nat) (lim : Value) (w : World) :
    Calls Try.prog 35 #[.slice (some ⟨g, 0, none⟩) 0 cap, .int .i64 0, .int .i64 0, lim] w fun e w' => e = .returned (.tuple #[]) ∧ w = w' := by
  go_enter Try.func35, Try.ntmps35
  go_wp2
  refine wp_loop_rounds 1 ?_
  rw [rounds_succ]
  go_wp2_with (go_at_call 42; refine (insertion_none _ _ _).mono ?_; rintro e w' ⟨rfl, rfl⟩)
  refine bodyPost_ret (results_none rfl _ _ _) rfl ?_
  exact ⟨rfl, rfl⟩

/-- slices.Sort at an empty slice of strings. -/
theorem sort_none (g cap : Nat) (w : World) :
    Calls Try.prog 31 #[.slice (some ⟨g, 0, none⟩) 0 cap] w fun e w' => e = .returned (.tuple #[]) ∧ w = w' := by
  go_enter Try.func31, Try.ntmps31
  go_wp2_with (first | (go_at_call 35; refine (pdq_none _ _ _ _).mono ?_; rintro e w' ⟨rfl, rfl⟩) | go_in)
  go_end0
  exact ⟨rfl, rfl⟩

/-- THE NODES: cell j of row g points at a node that likes nothing and has settled nothing. -/
def FreshAt (w : World) (g n : Nat) : Prop := ∀ j, j < n → ∃ p, w.cell? ⟨g, j, none⟩ = some (.pointer (some ⟨p, 0, none⟩)) ∧ w.cell? ⟨p, 0, none⟩ = some (.slice none 0 0) ∧ w.cell? ⟨p, 3, none⟩ = some (.bool false)

theorem FreshAt.kept {w w' : World} {g n : Nat} (h : FreshAt w g n) (hb : Below w.heap.size w w') : FreshAt w' g n := fun j hj => by
  obtain ⟨p, h1, h2, h3⟩ := h j hj
  exact ⟨p, (hb.cell (World.block_lt_of_cell? _ _ h1)).trans h1, (hb.cell (World.block_lt_of_cell? _ _ h2)).trans h2, (hb.cell (World.block_lt_of_cell? _ _ h3)).trans h3⟩

def freshNode : Obj := .cells #[.slice none 0 0, .slice none 0 0, .int .i64 0, .bool false] 50

/-- The loop of zzFreshNodes, k nodes made. -/
structure Made (w wr : World) (n k : Nat) : Prop where
  below : Below w.heap.size w wr
  size : wr.heap.size = w.heap.size + 1 + k
  row : wr.rowIs w.heap.size 47 n (fun j => if j < k then .pointer (some ⟨w.heap.size + 1 + j, 0, none⟩) else .pointer none)
  node : ∀ j, j < k → wr.heap[w.heap.size + 1 + j]? = some freshNode

theorem made_start (w : World) (n : Nat) : Made w (w.alloc (.cells (madeCells #[.pointer none] n) 47)) n 0 :=
  ⟨(Below.refl _ _).alloc (Nat.le_refl _) _, by simp, (World.rowIs_made w _ n 47).congr (fun j _ => by simp), fun j hj => absurd hj (Nat.not_lt_zero _)⟩

theorem made_step {w wr : World} {n k : Nat} (h : Made w wr n k) :
    Made w ((wr.setCell ⟨w.heap.size, k, none⟩ (.pointer (some ⟨wr.heap.size, 0, none⟩))).alloc freshNode) n (k + 1) := by
  refine ⟨(h.below.setCell (Nat.le_refl _) _).alloc (by simp [h.size]; omega) _, by simp [h.size]; omega, ((h.row.set k _).alloc _).congr (fun j _ => ?_), fun j hj => ?_⟩
  · show (if j = k then _ else if j < k then _ else _) = _
    by_cases e : j = k
    · subst e; simp [h.size]
    · rw [if_neg e]
      by_cases hlt : j < k
      · rw [if_pos hlt, if_pos (by omega)]
      · rw [if_neg hlt, if_neg (by omega)]
  · by_cases e : j = k
    · subst e
      have hs : w.heap.size + 1 + j = (wr.setCell ⟨w.heap.size, j, none⟩ (.pointer (some ⟨wr.heap.size, 0, none⟩))).heap.size := by simp [h.size]
      rw [hs]
      exact blk_alloc_new _ _
    · rw [Below.heap_alloc _ _ _ (by simp [h.size]; omega), Below.heap_setCell _ _ _ _ (by show w.heap.size + 1 + j ≠ w.heap.size; omega)]
      exact h.node j (by omega)

theorem made_fresh {w wr : World} {n : Nat} (h : Made w wr n n) : FreshAt wr w.heap.size n := fun j hj => by
  have hr := h.row.cell hj
  have hn := h.node j hj
  refine ⟨w.heap.size + 1 + j, by rw [hr, if_pos hj], ?_, ?_⟩ <;> simp [World.cell?, hn, freshNode]

/-- zzFreshNodes. -/
theorem fresh_any (n : Nat) (hn : n ≤ 65536) (w : World) :
    Calls Try.prog 10 #[.int .i64 n] w fun e w' => e = .returned (.slice (some ⟨w.heap.size, 0, none⟩) n n) ∧ FreshAt w' w.heap.size n ∧ Below w.heap.size w w' := by
  have hmk := run_make_row' (P := Try.prog) 39 47 (.pointer none) 8 Try.underlying39 Try.infoP47 rfl .i64 .i64 n (by omega) (by omega)
  go_enter Try.func10, Try.ntmps10
  go_wp2
  go_loopw [4] (fun i wr => ∃ k : Nat, k ≤ n ∧ i = .int .i64 k ∧ Made w wr n k) (fun i _ => n - (intOf i).toNat)
  case atStart => exact ⟨0, Nat.zero_le _, rfl, made_start w n⟩
  case round =>
    obtain ⟨k, hk, rfl, hm⟩ := hrel
    by_cases hlt : k < n
    · have hck := hm.row.cell hlt
      have hfk := hm.row.frozen k
      have hsz : w.heap.size < wr.heap.size := by rw [hm.size]; omega
      rw [if_neg (Nat.lt_irrefl k)] at hck
      go_wp2
      go_roundw
      case rel => exact ⟨k + 1, by omega, by go_num, made_step hm⟩
      case measure => simp [intOf]; omega
    · have e : k = n := by omega
      subst e
      go_wp2
      go_ret
      exact ⟨rfl, made_fresh hm, hm.below⟩

end Go.Proofs.Qxb6608792a
