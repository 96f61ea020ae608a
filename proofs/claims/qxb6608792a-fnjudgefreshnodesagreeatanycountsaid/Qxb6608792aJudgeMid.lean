import Derived.Test.Qxb6608792aJudgeLeaves
import Derived.Handy
namespace Go.Proofs.Qxb6608792a
open Go.RowKit Go.Deep
set_option maxRecDepth 100000
set_option maxHeartbeats 400000

/-- newSetClasses: the fields of the new struct; the row of 'of', the empty map. -/
theorem newClasses_any (n : Nat) (hn : n ≤ 65536) (w : World) :
    Calls Try.prog 15 #[.int .i64 n] w fun e w' => ∃ O M, e = .returned (.agg #[.slice none 0 0, .slice none 0 0, .slice (some ⟨O, 0, none⟩) n n, .map (some M)]) ∧
      w.heap.size ≤ O ∧ w.heap.size ≤ M ∧ O ≠ M ∧ w'.rowIs O 21 n (fun _ => .int .i32 0) ∧ w'.heap[M]? = some (.map #[] 0) ∧ Below w.heap.size w w' := by
  have hmk := run_make_row' (P := Try.prog) 52 21 (.int .i32 0) 4 Try.underlying52 Try.infoI21 rfl .i64 .i64 n (by omega) (by omega)
  have hmm := @run_makeMap Try.prog
  go_enter Try.func15, Try.ntmps15
  go_wp2
  go_returns
  refine ⟨w.heap.size + 1, w.heap.size + 1 + 1, rfl, by omega, by omega, by omega, ?_, ?_, ?_⟩
  · have h := World.rowIs_made (w.alloc (.cells #[.slice none 0 0, .slice none 0 0, .slice (some ⟨w.heap.size + 1, 0, none⟩) n n, .map (some (w.heap.size + 1 + 1))] 55)) (.int .i32 0) n 21
    rw [World.size_alloc] at h
    exact h.alloc _
  · have h := blk_alloc_new ((w.alloc (.cells #[.slice none 0 0, .slice none 0 0, .slice (some ⟨w.heap.size + 1, 0, none⟩) n n, .map (some (w.heap.size + 1 + 1))] 55)).alloc (.cells (madeCells #[.int .i32 0] n) 21)) (.map #[] 0)
    rw [World.size_alloc, World.size_alloc] at h
    exact h
  · go_grown

/-- largest over one class. -/
theorem largest_one (C K cap : Nat) (m : Int) (hm : 0 < m) (w : World) (h1 : w.cell? ⟨C, 1, none⟩ = some (.slice (some ⟨K, 0, none⟩) 1 cap))
    (k0 : w.cell? ⟨K, 0, none⟩ = some (.int .i64 0)) (k1 : w.cell? ⟨K, 1, none⟩ = some (.int .i64 0)) (k2 : w.cell? ⟨K, 2, none⟩ = some (.int .i64 m)) (k3 : w.cell? ⟨K, 3, none⟩ = some (.int .i32 (-1))) :
    Calls Try.prog 18 #[.pointer (some ⟨C, 0, none⟩)] w fun e w' => e = .returned (.int .i64 m) ∧ Below w.heap.size w w' := by
  go_enter Try.func18, Try.ntmps18
  go_wp2
  refine wp_loop_rounds 2 ?_
  rw [rounds_succ]
  go_wp2
  rw [rounds_succ]
  go_wp2
  go_ret
  exact ⟨rfl, by go_grown⟩

/-- idsOf of the empty set. -/
theorem ids_nil (G : Nat) (w : World) :
    Calls Try.prog 19 #[.pointer (some ⟨G, 0, none⟩), .slice none 0 0] w fun e w' => e = .returned (.slice (some ⟨w.heap.size, 0, none⟩) 0 0) ∧ Below w.heap.size w w' := by
  have hmk : ∀ w, (Instr.makeSlice 30 (.int .i64 0) (.int .i64 0)).run Try.prog w = .ok (.slice (some ⟨w.heap.size, 0, none⟩) 0 0) (w.alloc (.cells (madeCells #[.string ByteArray.empty] 0) 9)) :=
    run_make_row' (P := Try.prog) 30 9 (.string ByteArray.empty) 16 Try.underlying30 Try.infoS9 rfl .i64 .i64 0 (by omega) (by omega)
  go_enter Try.func19, Try.ntmps19
  go_wp2
  refine wp_loop_rounds 1 ?_
  rw [rounds_succ]
  go_wp2_with (go_at_call 31; refine (sort_none _ _ _).mono ?_; rintro e w' ⟨rfl, rfl⟩)
  go_ret
  exact ⟨rfl, (Below.refl _ _).alloc (Nat.le_refl _) _⟩

/-- agree over fresh nodes. -/
theorem agree_fresh (G g n : Nat) (hn : n ≤ 65536) (w : World) (hG : w.cell? ⟨G, 0, none⟩ = some (.slice none 0 0)) (hf : FreshAt w g n) :
    Calls Try.prog 17 #[.pointer (some ⟨G, 0, none⟩), .slice (some ⟨g, 0, none⟩) n n] w fun e w' => e = .returned (.bool true) ∧ Below w.heap.size w w' := by
  have hmk : ∀ w, (Instr.makeSlice 68 (.int .i64 0) (.int .i64 0)).run Try.prog w = .ok (.slice (some ⟨w.heap.size, 0, none⟩) 0 0) (w.alloc (.cells (madeCells #[.bool false] 0) 4)) :=
    run_make_row' (P := Try.prog) 68 4 (.bool false) 1 Try.underlying68 Try.infoB4 rfl .i64 .i64 0 (by omega) (by omega)
  go_enter Try.func17, Try.ntmps17
  go_wp2_with (go_at_call 24; refine (glen_nil _ _ hG).mono ?_; rintro e w' ⟨rfl, rfl⟩)
  go_loop [7, 6, 24] (fun a b i => ∃ k : Nat, k ≤ n ∧ i = .int .i64 k ∧ a = .slice none 0 0 ∧ b = .slice none 0 0) (fun _ _ i => n - (intOf i).toNat)
  case atStart => exact ⟨0, Nat.zero_le _, rfl, rfl, rfl⟩
  case round =>
    obtain ⟨k, hk, rfl, rfl, rfl⟩ := hrel
    by_cases hlt : k < n
    · obtain ⟨p, h1, h2, h3⟩ := hf k hlt
      have hg := World.block_lt_of_cell? _ _ h1
      have hp := World.block_lt_of_cell? _ _ h2
      go_wp2_with (go_at_call 25; refine (settled_no _ _ (by simp [go_sem, *])).mono ?_; rintro e w' ⟨rfl, rfl⟩)
      go_round
      case rel => exact ⟨k + 1, by omega, by go_num, rfl, rfl⟩
      case measure => simp [intOf]; omega
    · go_wp2
      go_loop [57] (fun i => ∃ k : Nat, k ≤ n ∧ i = .int .i64 k) (fun i => n - (intOf i).toNat)
      case atStart => exact ⟨0, Nat.zero_le _, rfl⟩
      case round =>
        obtain ⟨k, hk, rfl⟩ := hrel
        by_cases hlt : k < n
        · obtain ⟨p, h1, h2, h3⟩ := hf k hlt
          have hg := World.block_lt_of_cell? _ _ h1
          have hp := World.block_lt_of_cell? _ _ h2
          go_wp2_with (go_at_call 20; refine (liked_nil _ _ (by simp [go_sem, *])).mono ?_; rintro e w' ⟨rfl, rfl⟩)
          refine wp_loop_rounds 1 ?_
          rw [rounds_succ]
          go_wp2
          go_round
          case rel => exact ⟨k + 1, by omega, by go_num⟩
          case measure => simp [intOf]; omega
        · go_wp2
          go_ret
          exact ⟨rfl, by go_grown⟩

end Go.Proofs.Qxb6608792a
