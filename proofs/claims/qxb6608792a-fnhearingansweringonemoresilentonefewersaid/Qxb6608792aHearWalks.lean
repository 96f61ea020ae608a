import Derived.Test.Qxb6608792aProg
import Derived.WalkKit
import Derived.WalkSpells
import Derived.WalkLawsBesides
import Derived.Deep.OwnRows
import Derived.Below
import Derived.OpenShut
import Derived.Deep.QuietTactic
import Derived.BigQuiet
namespace Go.Proofs.Qxb6608792a
open Go.RowKit Go.Deep

theorem Try.info3 : (Try.prog.info? 3).map (fun i => (i.zero, i.size, i.bytes)) = some (some (.int .i64 0), 1, 8) := by kernel_rfl

set_option maxRecDepth 100000 in
set_option maxHeartbeats 400000 in
/-- zzBytes: a bool, the world as it was. -/
theorem bytes_any (a0 a1 : Int) (a2 : Option Addr) (len2 cap2 : Nat) (a3 : Int) (a4 : Bool) (a5 a6 : Int) (a7 : Option Addr) (len7 cap7 : Nat) (a8 : Int) (a9 : Bool) (w : World) (h2 : len2 ≤ maxLen) (h7 : len7 ≤ maxLen) :
    Calls Try.prog 5 #[.int .i64 a0, .int .i64 a1, .slice a2 len2 cap2, .int .u64 a3, .bool a4, .int .i32 a5, .int .i64 a6, .slice a7 len7 cap7, .int .u64 a8, .bool a9] w fun e w' => (∃ b : Bool, e = .returned (.bool b)) ∧ w = w' := by
  unfold maxLen at h2 h7
  go_enter Try.func5, Try.ntmps5
  go_wp2
  all_goals (go_ret; exact ⟨⟨_, rfl⟩, rfl⟩)

set_option maxRecDepth 100000 in
set_option maxHeartbeats 400000 in
/-- zzCloneInts at nil. -/
theorem clone_nil (w : World) : Calls Try.prog 6 #[.slice none 0 0] w fun e w' => e = .returned (.slice none 0 0) ∧ w' = w := by
  have hnil := fun w a n c => Lib.run_eql_slice_nil (P := Try.prog) w 22 3 a n c 0 0 Try.underlying22
  go_enter Try.func6, Try.ntmps6
  go_wp2
  go_ret
  exact ⟨rfl, rfl⟩

set_option maxRecDepth 100000 in
set_option maxHeartbeats 400000 in
/-- zzCloneInts at a slice that is not nil: a new slice of the same length; nothing that was there has turned. -/
theorem clone_some (b off len cap : Nat) (zs : List Int) (w : World) (hl : len ≤ cap) (hs : len ≤ 65536) (hz : zs.length = cap)
    (hc : ∀ i, i < zs.length → w.cell? ⟨b, off + i, none⟩ = some (.int .i64 (zs.getD i 0))) :
    Calls Try.prog 6 #[.slice (some ⟨b, off, none⟩) len cap] w fun e w' => e = .returned (.slice (some ⟨w.heap.size, 0, none⟩) len len) ∧ Below w.heap.size w w' := by
  have hmk := run_make_row' (P := Try.prog) 22 3 (.int .i64 0) 8 Try.underlying22 Try.info3 rfl .i64 .i64 len (by omega) (by omega)
  have hnil := fun w a n c => Lib.run_eql_slice_nil (P := Try.prog) w 22 3 a n c 0 0 Try.underlying22
  go_enter Try.func6, Try.ntmps6
  go_wp2
  go_loopw [4] (fun i wr => ∃ k : Nat, k ≤ len ∧ i = .int .i64 k ∧ (∃ f, wr.rowIs w.heap.size 3 len f) ∧ Below w.heap.size w wr) (fun i _ => len - (intOf i).toNat)
  case atStart => exact ⟨0, Nat.zero_le _, rfl, ⟨_, World.rowIs_made w _ len 3⟩, (Below.refl _ _).alloc (Nat.le_refl _) _⟩
  case round =>
    obtain ⟨k, hk, rfl, ⟨f, hrow⟩, hb⟩ := hrel
    by_cases hlt : k < len
    · have hck : wr.cell? ⟨b, off + k, none⟩ = some (.int .i64 (zs.getD k 0)) := by
        have h0 := hc k (by omega)
        have hblt := World.block_lt_of_cell? _ _ h0
        exact (hb.cell hblt).trans h0
      have hck2 := hrow.cell hlt
      have hfk := hrow.frozen k
      go_wp2
      go_roundw
      case rel => exact ⟨k + 1, by omega, by go_num, ⟨_, hrow.set k _⟩, hb.setCell (Nat.le_refl _) _⟩
      case measure => simp [intOf]; omega
    · go_wp2
      go_ret
      exact ⟨rfl, hb⟩

set_option maxRecDepth 100000 in
set_option maxHeartbeats 400000 in
/-- zzCloneInts at a slice that is not nil and has no element, wherever it lies. -/
theorem clone_zero (x : Addr) (cap : Nat) (w : World) :
    Calls Try.prog 6 #[.slice (some x) 0 cap] w fun e w' => e = .returned (.slice (some ⟨w.heap.size, 0, none⟩) 0 0) ∧ Below w.heap.size w w' := by
  have hmk : ∀ w, (Instr.makeSlice 22 (.int .i64 0) (.int .i64 0)).run Try.prog w = .ok (.slice (some ⟨w.heap.size, 0, none⟩) 0 0) (w.alloc (.cells (madeCells #[.int .i64 0] 0) 3)) :=
    run_make_row' (P := Try.prog) 22 3 (.int .i64 0) 8 Try.underlying22 Try.info3 rfl .i64 .i64 0 (by omega) (by omega)
  have hnil := fun w a n c => Lib.run_eql_slice_nil (P := Try.prog) w 22 3 a n c 0 0 Try.underlying22
  go_enter Try.func6, Try.ntmps6
  go_wp2
  refine wp_loop_rounds 1 ?_
  rw [rounds_succ]
  go_wp2
  go_ret
  exact ⟨rfl, (Below.refl _ _).alloc (Nat.le_refl _) _⟩

/-- WHAT THE WALK IS TOLD OF A SLICE OF INTEGERS THAT CAME IN (the shell's word). -/
def IsRow (k : IntKind) (w : World) (a : Option Addr) (len cap : Nat) (zs : List Int) : Prop :=
  (a = none ∧ len = 0 ∧ cap = 0 ∧ zs = []) ∨
  ∃ x, a = some x ∧ len ≤ cap ∧ cap ≤ maxLen ∧ zs.length = cap ∧ (∀ i, i < zs.length → w.cell? (x.add i) = some (.int k (zs.getD i 0))) ∧ ∀ n ∈ zs, (Lit.int k n).wf = true

theorem IsRow.len_le {k : IntKind} {w : World} {a : Option Addr} {len cap : Nat} {zs : List Int} (h : IsRow k w a len cap zs) : len ≤ maxLen := by
  rcases h with ⟨_, rfl, _, _⟩ | ⟨x, _, hl, hm, _⟩
  · exact Nat.zero_le _
  · exact Nat.le_trans hl hm

/-- zzCloneInts at any slice that came in. -/
theorem clone_any (a : Option Addr) (len cap : Nat) (zs : List Int) (w w0 : World) (h : IsRow .i64 w0 a len cap zs) (hb : Below w0.heap.size w0 w) (hs : len ≤ 65536) :
    Calls Try.prog 6 #[.slice a len cap] w fun e w' => ∃ a' c', e = .returned (.slice a' len c') ∧ Below w0.heap.size w0 w' := by
  rcases h with ⟨rfl, rfl, rfl, rfl⟩ | ⟨x, rfl, hl, hm, hz, hc, _⟩
  · refine (clone_nil w).mono ?_
    rintro e w' ⟨rfl, rfl⟩
    exact ⟨_, _, rfl, hb⟩
  · by_cases h0 : len = 0
    · subst h0
      refine (clone_zero x cap w).mono ?_
      rintro e w' ⟨rfl, hb'⟩
      exact ⟨_, _, rfl, hb.trans (hb'.mono hb.size)⟩
    · obtain ⟨b, off, rfl, hc'⟩ := ints_at hc (by omega)
      refine (clone_some b off len cap zs w hl hs hz (fun i hi => ?_)).mono ?_
      · have h1 := hc' i hi
        exact (hb.cell (World.block_lt_of_cell? _ _ h1)).trans h1
      · rintro e w' ⟨rfl, hb'⟩
        exact ⟨_, _, rfl, hb.trans (hb'.mono hb.size)⟩

/-- What 'answering' answers. -/
def ans (byz silent : Int) : Int := wrap64 (byz - silent)

set_option maxRecDepth 100000 in
set_option maxHeartbeats 400000 in
theorem answering_any (b : Nat) (byz silent : Int) (w : World) (h1 : w.cell? ⟨b, 1, none⟩ = some (.int .i64 byz)) (h5 : w.cell? ⟨b, 5, none⟩ = some (.int .i32 silent)) (hs1 : -2147483648 ≤ silent) (hs2 : silent ≤ 2147483647) :
    Calls Try.prog 13 #[.pointer (some ⟨b, 0, none⟩)] w fun e w' => e = .returned (.int .i64 (ans byz silent)) ∧ Below w.heap.size w w' := by
  go_enter Try.func13, Try.ntmps13
  go_wp2
  go_quiet (fail)
  go_wp2
  go_ret
  exact ⟨rfl, below_drewN (Below.refl _ _) _⟩

set_option maxRecDepth 100000 in
set_option maxHeartbeats 400000 in
theorem zzanswering_any (b : Nat) (byz silent : Int) (w : World) (h1 : w.cell? ⟨b, 1, none⟩ = some (.int .i64 byz)) (h5 : w.cell? ⟨b, 5, none⟩ = some (.int .i32 silent)) (hs1 : -2147483648 ≤ silent) (hs2 : silent ≤ 2147483647) :
    Calls Try.prog 7 #[.pointer (some ⟨b, 0, none⟩)] w fun e w' => e = .returned (.int .i64 (ans byz silent)) ∧ Below w.heap.size w w' := by
  go_enter Try.func7, Try.ntmps7
  go_wp2_with (go_at_call 13; refine (answering_any b byz silent _ h1 h5 hs1 hs2).mono ?_; rintro e w' ⟨rfl, hb⟩)
  go_ret
  exact ⟨rfl, hb⟩

set_option maxRecDepth 100000 in
set_option maxHeartbeats 400000 in
/-- ZZNewHearing: one new block, the fields one to one. -/
theorem newHearing_any (node byz : Int) (a : Option Addr) (len cap : Nat) (hash : Int) (again : Bool) (silent : Int) (w : World) :
    Calls Try.prog 8 #[.int .i64 node, .int .i64 byz, .slice a len cap, .int .u64 hash, .bool again, .int .i32 silent] w fun e w' =>
      e = .returned (.pointer (some ⟨w.heap.size, 0, none⟩)) ∧ w' = w.alloc (.cells #[.int .i64 node, .int .i64 byz, .slice a len cap, .int .u64 hash, .bool again, .int .i32 silent] 46) := by
  go_enter Try.func8, Try.ntmps8
  go_wp2
  go_ret
  exact ⟨rfl, rfl⟩

/-- One more silent one, one fewer that answers; and all together are those heard. -/
theorem ans_law (byz silent : Int) (h1 : -9223372036854775808 ≤ byz) (h2 : byz ≤ 9223372036854775807) :
    ((ans byz silent == wrap64 (ans byz (silent + 1) + 1)) && (wrap64 (ans byz silent + silent) == byz)) = true := by
  simp only [Bool.and_eq_true, beq_iff_eq]
  unfold ans wrap64
  omega

end Go.Proofs.Qxb6608792a
