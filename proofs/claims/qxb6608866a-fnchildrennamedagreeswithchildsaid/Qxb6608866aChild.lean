import Derived.Test.Qxb6608866aKids
namespace Go.Proofs.Qxb6608866a
open Go.RowKit Go.Deep Go.MapKept
open Go.Maps (Keyed)
set_option maxRecDepth 100000
set_option maxHeartbeats 1000000

theorem child_any (bn bm : Nat) (x y : ByteArray) (v : Value) (w : World) (hc : w.cell? ⟨bn, 24, none⟩ = some (.map (some bm)))
    (hlook : ∀ W : World, W.heap[bm]? = w.heap[bm]? → (Instr.lookup 33 (.map (some bm)) (.agg #[.string x, .string y]) false).run Try.prog W = .ok v W) (hbm : bm < w.heap.size) :
    Calls Try.prog 23 #[.pointer (some ⟨bn, 0, none⟩), .agg #[.string x, .string y]] w fun e w' => e = .returned v ∧ w.grownBy w' none := by
  have hlt : bn < w.heap.size := World.block_lt_of_cell? _ _ hc
  have hc' : (w.alloc (.cells #[.string x, .string y] 42)).cell? ⟨bn, 24, none⟩ = some (.map (some bm)) := by
    rw [World.cell?_alloc_old _ _ _ (by show bn ≠ w.heap.size; omega)]; exact hc
  have hl : ∀ n, (Instr.lookup 33 (.map (some bm)) (.agg #[.string x, .string y]) false).run Try.prog ((w.alloc (.cells #[.string x, .string y] 42)).drewN n) = .ok v ((w.alloc (.cells #[.string x, .string y] 42)).drewN n) := fun n => hlook _ ((MapKept.heap_alloc w _).2 bm hbm)
  clear hlook
  go_enter Try.func23, Try.ntmps23
  go_wp2
  go_quiet (fail)
  go_wp2
  go_ret
  have hg := World.grownBy_alloc w (.cells #[.string x, .string y] 42) none
  exact ⟨rfl, hg.os, hg.tape, hg.output, hg.size, hg.block⟩

end Go.Proofs.Qxb6608866a
