import Derived.Test.Qxb6608792aJudgeTakeW
import Derived.Test.Qxb6608792aJudgeFloat
namespace Go.Proofs.Qxb6608792a
open Go.RowKit Go.Deep Go.Maps
set_option maxRecDepth 100000
set_option maxHeartbeats 1000000

/-- The float64 1, behind a name. -/
def oneBits : Nat := 4607182418800017408
/-- What judge tells of fresh nodes. -/
def judged (en : Int) (capped : Bool) (a : Option Addr) : Value := .agg #[.int .i64 0, .int .i64 en, .bool capped, .bool false, .float .f64 oneBits, .int .i64 0, .float .f64 0, .slice a 0 0]

theorem run_store_float (P : Program) (w : World) (a : Addr) (m : Mode) (k : FloatKind) (b : Nat) : (store a (.float k b) m).run P w = stored P w a (.float k b) m := run_store P w a _ m rfl

theorem run_rate (n : Nat) (h1 : 1 ≤ n) (h2 : n ≤ 65536) (w : World) (t : TypeId) : (binOp .quo t (.float .f64 (floatOfInt .f64 n)) (.float .f64 (floatOfInt .f64 n))).run Try.prog w = .ok (.float .f64 oneBits) w :=
  run_float_arith w .quo t .f64 _ _ _ (div_self_one n h1 h2)

/-- A whole struct stored into a block of its own: for the walk. -/
theorem wpList_store_whole {P : Program} (w : World) {ops : Array Oper} {rest : List Oper} {o : Oper} {a : Act} {Q : Exit → Act → World → Prop}
    (hgd : o.guard = none) (ty : TypeId) (x y : Operand) (ho : o.op = .store ty x y) (g : Nat) (cells : Array Value) (hx : a.eval x = .pointer (some ⟨g, 0, none⟩)) (hy : a.eval y = .agg cells)
    (t : TypeId) (old : Array Value) (hg : w.heap[g]? = some (.cells old t (0, 0))) (hi : (P.info? ty).map (·.size) = some cells.size) (hold : old.size = cells.size) (h1 : cells.all (·.oneCell') = true)
    (hK : ∀ w', w'.heap[g]? = some (.cells cells t) → w.grownBy w' (some g) → wpList P ops Q rest (a.put o.dst undef) w') : wpList P ops Q (o :: rest) a w := by
  refine wpList_plain hgd fun K' hK' => wp_store_row ty x y ho g cells hx hy t old hg hi hold h1 (hK' _ _ (hK _ (setRow_heap w g old cells t _ hg) ⟨rfl, rfl, rfl, by simp, fun k _ hk => setRow_other w g k _ (fun e => hk (by simp [e]))⟩))

theorem Try.size37 : (Try.prog.info? 37).map (·.size) = some 8 := by kernel_rfl

/-- A struct Result that is handed back out of its block. -/
theorem ret37 {fn : Func} (h : fn.results = #[.cell 8 37]) (tmps : Array Value) (w : World) (g : Nat) (ht : tmps.getD 8 undef = .pointer (some ⟨g, 0, none⟩)) (cs : Array Value) (hg : w.heap[g]? = some (.cells cs 37)) (hs : cs.size = 8) :
    (results fn tmps).run Try.prog w = .ok (.agg cs) w := by
  have hl := run_loadVar_row (P := Try.prog) w g 37 37 cs (0, 0) _ hg Try.underlying37 rfl (by rw [hs]; exact Try.size37)
  have ht' : tmps[8]?.getD undef = .pointer (some ⟨g, 0, none⟩) := by rw [← ht]; simp
  simp only [results, h]
  simp [ht', asAddr, hl]

theorem judge_fresh (G g n : Nat) (en : Int) (capped : Bool) (hn1 : 1 ≤ n) (hn : n ≤ 65536) (w : World) (hG : w.cell? ⟨G, 0, none⟩ = some (.slice none 0 0)) (hf : FreshAt w g n) :
    Calls Try.prog 14 #[.pointer (some ⟨G, 0, none⟩), .slice (some ⟨g, 0, none⟩) n n, .int .i64 en, .bool capped] w fun e w' => ∃ a, e = .returned (judged en capped a) ∧ a.isNone = capped ∧ Below w.heap.size w w' := by
  have hrate := fun w t => run_rate n hn1 hn w t
  have hsf := @run_store_float
  go_enter Try.func14, Try.ntmps14
  go_wp2_with fail
  refine (newClasses_any n hn _).mono ?_
  rintro e w1 ⟨O, M, rfl, bO, bM, hOM, hrow, hM, hb1⟩
  obtain ⟨w0, hw0⟩ : ∃ w0, w0 = w.alloc (.cells #[.int .i64 0, .int .i64 0, .bool false, .bool false, .float .f64 0, .int .i64 0, .float .f64 0, .slice none 0 0] 37) := ⟨_, rfl⟩
  rw [← hw0] at hb1 bO bM
  have hz0 : w0.heap.size = w.heap.size + 1 := by rw [hw0]; simp
  have hbw0 : Below w.heap.size w w0 := by rw [hw0]; exact (Below.refl _ _).alloc (Nat.le_refl _) _
  have hf0 : FreshAt w0 g n := hf.kept hbw0
  have hR : w0.heap[w.heap.size]? = some (.cells #[.int .i64 0, .int .i64 0, .bool false, .bool false, .float .f64 0, .int .i64 0, .float .f64 0, .slice none 0 0] 37) := by rw [hw0]; exact blk_alloc_new _ _
  clear hw0
  go_wp2_with fail
  have hMlt : M < w1.heap.size := (Array.getElem?_eq_some_iff.1 hM).1
  have hMo : w1.ownsMap Try.prog 23 (plainElem (H := Unit) Try.prog 21) M 0 (.map []) := by
    obtain ⟨es, c, h1, h2⟩ := World.ownsMap_made w1 Try.prog 23 (plainElem (H := Unit) Try.prog 21)
    have h3 : (w1.alloc (.map #[] 0)).heap[w1.heap.size]? = some (.map #[] 0) := blk_alloc_new _ _
    rw [h3] at h1
    simp only [Option.some.injEq, Obj.map.injEq] at h1
    obtain ⟨rfl, rfl⟩ := h1
    exact ⟨_, _, hM, h2⟩
  refine (take_fresh w0 _ w1.heap.size O M g n hn hn1 hf0 (hb1.alloc hb1.size _) (blk_alloc_new _ _) (hrow.alloc _) ((Below.heap_alloc w1 _ M hMlt).trans hM) (hMo.alloc _) hb1.size bO bM).mono ?_
  rintro e w2 ⟨rfl, K, cap, bK, ht⟩
  have hb2 : Below w.heap.size w w2 := hbw0.trans (ht.below.mono (by omega))
  have hG2 : w2.cell? ⟨G, 0, none⟩ = some (.slice none 0 0) := (hb2.cell (World.block_lt_of_cell? _ _ hG)).trans hG
  go_wp2_with fail
  refine (agree_fresh G g n hn _ hG2 (hf0.kept ht.below)).mono ?_
  rintro e w3 ⟨rfl, hb3⟩
  obtain ⟨cur, hkk, k0, k1, k2, k3⟩ := ht.own
  have hKlt : K < w2.heap.size := (Array.getElem?_eq_some_iff.1 hkk).1
  have hClt : w1.heap.size < w2.heap.size := (Array.getElem?_eq_some_iff.1 ht.cls).1
  have hK3 : w3.heap[K]? = some (.cells cur 67) := (hb3.block K hKlt).trans hkk
  have hC3 := (hb3.block w1.heap.size hClt).trans ht.cls
  have c1 : w3.cell? ⟨w1.heap.size, 1, none⟩ = some (.slice (some ⟨K, 0, none⟩) 1 cap) := by simp [World.cell?, hC3, clsObj]
  go_wp2_with fail
  refine (largest_one w1.heap.size K cap n (by omega) _ c1 (by simp [World.cell?, hK3, k0]) (by simp [World.cell?, hK3, k1]) (by simp [World.cell?, hK3, k2]) (by simp [World.cell?, hK3, k3])).mono ?_
  rintro e w4 ⟨rfl, hb4⟩
  have hR4 : w4.heap[w.heap.size]? = some (.cells #[.int .i64 0, .int .i64 0, .bool false, .bool false, .float .f64 0, .int .i64 0, .float .f64 0, .slice none 0 0] 37) := by
    have h1 := ht.below.size
    have h2 := hb3.size
    rw [hb4.block _ (by omega), hb3.block _ (by omega), ht.below.block _ (by omega)]
    exact hR
  have hRlt : w.heap.size < w4.heap.size := (Array.getElem?_eq_some_iff.1 hR4).1
  have hb40 : Below w.heap.size w w4 := (hb2.trans (hb3.mono hb2.size)).trans (hb4.mono (Nat.le_trans hb2.size hb3.size))
  clear hb4 hb3 c1 hC3 hK3 hKlt hClt k0 k1 k2 k3 hkk ht bK hMo hMlt hG2 hb2 hR hf0 hb1 hM hrow hbw0 hG
  cases capped with
  | true =>
    go_wp2_with (refine wpList_store_whole _ rfl 37 (.tmp 8) (.tmp 44) rfl w.heap.size _ rfl rfl 37 _ ((Below.heap_alloc w4 _ _ hRlt).trans hR4) Try.size37 rfl (by simp [Value.oneCell']) ?_; intro w5 hr5 hg5)
    refine bodyPost_ret (ret37 Try.results14 _ _ w.heap.size rfl _ hr5 rfl) rfl ⟨none, rfl, rfl, ?_⟩
    exact (hb40.alloc hb40.size _).grown hg5 (by simp; omega) (fun k hk => by cases hk; exact Nat.le_refl _)
  | false =>
    obtain ⟨p, h1, h2, h3⟩ := hf 0 (by omega)
    have n1 : w4.cell? ⟨g, 0, none⟩ = some (.pointer (some ⟨p, 0, none⟩)) := (hb40.cell (World.block_lt_of_cell? _ _ h1)).trans h1
    have n2 : w4.cell? ⟨p, 0, none⟩ = some (.slice none 0 0) := (hb40.cell (World.block_lt_of_cell? _ _ h2)).trans h2
    have hg4 := World.block_lt_of_cell? _ _ n1
    have hp4 := World.block_lt_of_cell? _ _ n2
    have hpos : (0 : Int) < (n : Int) := by omega
    go_wp2_with (first
      | (go_at_call 20; refine (liked_nil p _ (by simp [go_sem, *])).mono ?_; rintro e w' ⟨rfl, rfl⟩)
      | fail)
    refine (ids_nil G _).mono ?_
    rintro e w6 ⟨rfl, hb6⟩
    obtain ⟨w7, hw7⟩ : ∃ w7, w7 = w4.alloc (.cells #[.int .i64 0, .int .i64 en, .bool false, .bool false, .float .f64 oneBits, .int .i64 0, .float .f64 0, .slice none 0 0] 37) := ⟨_, rfl⟩
    have hs7 : w7.heap.size = w4.heap.size + 1 := by rw [hw7]; simp
    have hr7 : w7.heap[w4.heap.size]? = some (.cells #[.int .i64 0, .int .i64 en, .bool false, .bool false, .float .f64 oneBits, .int .i64 0, .float .f64 0, .slice none 0 0] 37) := by rw [hw7]; exact blk_alloc_new _ _
    have hR7 := (Below.heap_alloc w4 (.cells #[.int .i64 0, .int .i64 en, .bool false, .bool false, .float .f64 oneBits, .int .i64 0, .float .f64 0, .slice none 0 0] 37) _ hRlt).trans hR4
    have hb7 : Below w.heap.size w w7 := by rw [hw7]; exact hb40.alloc hb40.size _
    rw [← hw7] at hb6 hR7
    clear hw7
    have hr6 := (hb6.block _ (by omega)).trans hr7
    have hR6 := (hb6.block _ (by omega)).trans hR7
    have y7 : w6.cell? ⟨w4.heap.size, 7, none⟩ = some (.slice none 0 0) := by simp [World.cell?, hr6]
    have yz : w6.frozen? ⟨w4.heap.size, 7, none⟩ = false := by simp [World.frozen?, hr6]
    have y0 : w6.cell? ⟨w4.heap.size, 0, none⟩ = some (.int .i64 0) := by simp [World.cell?, hr6]
    have y1 : w6.cell? ⟨w4.heap.size, 1, none⟩ = some (.int .i64 en) := by simp [World.cell?, hr6]
    have y2 : w6.cell? ⟨w4.heap.size, 2, none⟩ = some (.bool false) := by simp [World.cell?, hr6]
    have y3 : w6.cell? ⟨w4.heap.size, 3, none⟩ = some (.bool false) := by simp [World.cell?, hr6]
    have y4 : w6.cell? ⟨w4.heap.size, 4, none⟩ = some (.float .f64 oneBits) := by simp [World.cell?, hr6]
    have y5 : w6.cell? ⟨w4.heap.size, 5, none⟩ = some (.int .i64 0) := by simp [World.cell?, hr6]
    have y6 : w6.cell? ⟨w4.heap.size, 6, none⟩ = some (.float .f64 0) := by simp [World.cell?, hr6]
    have hne : w.heap.size ≠ w4.heap.size := by omega
    clear hr6 hr7 hR7
    go_wp2_with (refine wpList_store_whole _ rfl 37 (.tmp 8) (.tmp 44) rfl w.heap.size _ rfl rfl 37 _ ((Below.heap_setCell w6 _ _ _ hne).trans hR6) Try.size37 rfl (by simp [Value.oneCell']) ?_; intro w8 hr8 hg8)
    have hs6 := hb6.size
    have hb6' : Below w.heap.size w w6 := hb7.trans (hb6.mono (by omega))
    refine bodyPost_ret (ret37 Try.results14 _ _ w.heap.size rfl _ hr8 rfl) rfl ⟨some ⟨w4.heap.size + 1, 0, none⟩, rfl, rfl, ?_⟩
    exact (hb6'.setCell (by show w.heap.size ≤ w4.heap.size; omega) _).grown hg8 (by simp; omega) (fun k hk => by cases hk; exact Nat.le_refl _)

end Go.Proofs.Qxb6608792a
