import Derived.Test.Qxb6608792aJudgeW
namespace Go.Proofs.Qxb6608792a
open Go.RowKit Go.Deep Go.Maps
set_option maxRecDepth 100000
set_option maxHeartbeats 1000000

theorem zzjudge_fresh (G g n : Nat) (en : Int) (capped : Bool) (hn1 : 1 ≤ n) (hn : n ≤ 65536) (w : World) (hG : w.cell? ⟨G, 0, none⟩ = some (.slice none 0 0)) (hf : FreshAt w g n) :
    Calls Try.prog 9 #[.pointer (some ⟨G, 0, none⟩), .slice (some ⟨g, 0, none⟩) n n, .int .i64 en, .bool capped] w fun e w' => ∃ a, e = .returned (judged en capped a) ∧ a.isNone = capped ∧ Below w.heap.size w w' := by
  have hlt := World.block_lt_of_cell? _ _ hG
  go_enter Try.func9, Try.ntmps9
  go_wp2_with fail
  refine (judge_fresh G g n en capped hn1 hn _ (((((Below.refl _ w).alloc (Nat.le_refl _) _)).cell hlt).trans hG) (hf.kept (by go_grown))).mono ?_
  rintro e w1 ⟨a, rfl, ha, hb⟩
  have hr1 := (hb.block w.heap.size (by simp)).trans (blk_alloc_new w _)
  go_wp2_with (refine wpList_store_whole _ rfl 37 (.tmp 8) (.tmp 13) rfl w.heap.size _ rfl rfl 37 _ hr1 Try.size37 rfl (by simp [Value.oneCell']) ?_; intro w5 hr5 hg5)
  have hs := hb.size
  simp at hs
  refine bodyPost_ret (ret37 Try.results9 _ _ w.heap.size rfl _ hr5 rfl) rfl ⟨a, rfl, ha, ?_⟩
  exact (((Below.refl _ w).alloc (Nat.le_refl _) _).trans (hb.mono (by simp))).grown hg5 (by omega) (fun k hk => by cases hk; exact Nat.le_refl _)

theorem order_one : (Ieee.double.order oneBits oneBits == some .eq) = true := one_is_one
theorem order_one' : (FloatKind.f64.format.order oneBits 4607182418800017408 != some .eq) = false := by
  show (!(Ieee.double.order oneBits oneBits == some .eq)) = false
  rw [order_one]; rfl
theorem order_nought : (FloatKind.f64.format.order 0 0 != some .eq) = false := by
  show (!(Ieee.double.order 0 0 == some .eq)) = false
  rw [nought_is_nought]; rfl

theorem judged_fresh (en : Int) (capped : Bool) (a : Option Addr) (ha : a.isNone = capped) (w : World) :
    Calls Try.prog 11 #[judged en capped a, .int .i64 en, .bool capped] w fun e w' => e = .returned (.bool true) ∧ Below w.heap.size w w' := by
  have hsf := @run_store_float
  have hn1 := fun w a n c => Lib.run_eql_slice_nil (P := Try.prog) w 30 9 a n c 0 0 Try.underlying30
  have hn2 := fun w a n c => run_neq_slice_nil_any (P := Try.prog) w 30 9 a n c 0 0 Try.underlying30
  have o1 := order_one'
  have o2 := order_nought
  unfold judged
  cases capped with
  | true =>
    obtain rfl : a = none := by simpa using ha
    go_enter Try.func11, Try.ntmps11
    go_wp2
    go_ret
    exact ⟨rfl, by go_grown⟩
  | false =>
    obtain ⟨x, rfl⟩ : ∃ x, a = some x := by cases a <;> simp_all
    go_enter Try.func11, Try.ntmps11
    go_wp2
    go_ret
    exact ⟨rfl, by go_grown⟩

theorem same_result (en : Int) (capped : Bool) (a b : Option Addr) (ha : a.isNone = capped) (hb : b.isNone = capped) (w : World) :
    Calls Try.prog 12 #[judged en capped a, judged en capped b] w fun e w' => e = .returned (.bool true) ∧ Below w.heap.size w w' := by
  have hn1 := fun w a n c => Lib.run_eql_slice_nil (P := Try.prog) w 30 9 a n c 0 0 Try.underlying30
  have o1 := order_one
  have o2 : (FloatKind.f64.format.order 0 0 == some .eq) = true := nought_is_nought
  have o3 : (FloatKind.f64.format.order oneBits oneBits == some .eq) = true := order_one
  unfold judged
  cases capped with
  | true =>
    obtain rfl : a = none := by simpa using ha
    obtain rfl : b = none := by simpa using hb
    go_enter Try.func12, Try.ntmps12
    go_wp2
    go_ret
    exact ⟨rfl, by go_grown⟩
  | false =>
    obtain ⟨x, rfl⟩ : ∃ x, a = some x := by cases a <;> simp_all
    obtain ⟨y, rfl⟩ : ∃ x, b = some x := by cases b <;> simp_all
    go_enter Try.func12, Try.ntmps12
    go_wp2
    go_ret
    exact ⟨rfl, by go_grown⟩

theorem judge_out (n m en : Int) (capped : Bool) (w : World) (h : n < 1 ∨ 65536 < n ∨ m < 1 ∨ 65536 < m) :
    Calls Try.prog 4 #[.int .i64 n, .int .i64 m, .int .i64 en, .bool capped] w fun e w' => e = .returned (.bool true) ∧ Below w.heap.size w w' := by
  by_cases h1 : n < 1
  · go_enter Try.func4, Try.ntmps4
    go_wp2
    go_ret
    exact ⟨rfl, by go_grown⟩
  by_cases h2 : 65536 < n
  · go_enter Try.func4, Try.ntmps4
    go_wp2
    go_ret
    exact ⟨rfl, by go_grown⟩
  by_cases h3 : m < 1
  · go_enter Try.func4, Try.ntmps4
    go_wp2
    go_ret
    exact ⟨rfl, by go_grown⟩
  have h4 : 65536 < m := by omega
  go_enter Try.func4, Try.ntmps4
  go_wp2
  go_ret
  exact ⟨rfl, by go_grown⟩

def judgedObj (en : Int) (capped : Bool) (a : Option Addr) : Obj := .cells #[.int .i64 0, .int .i64 en, .bool capped, .bool false, .float .f64 oneBits, .int .i64 0, .float .f64 0, .slice a 0 0] 37

theorem cells8 {w : World} {g : Nat} {en : Int} {capped : Bool} {a : Option Addr} (h : w.heap[g]? = some (judgedObj en capped a)) :
    w.cell? ⟨g, 0, none⟩ = some (.int .i64 0) ∧ w.cell? ⟨g, 1, none⟩ = some (.int .i64 en) ∧ w.cell? ⟨g, 2, none⟩ = some (.bool capped) ∧ w.cell? ⟨g, 3, none⟩ = some (.bool false) ∧ w.cell? ⟨g, 4, none⟩ = some (.float .f64 oneBits) ∧
    w.cell? ⟨g, 5, none⟩ = some (.int .i64 0) ∧ w.cell? ⟨g, 6, none⟩ = some (.float .f64 0) ∧ w.cell? ⟨g, 7, none⟩ = some (.slice a 0 0) := by
  simp [World.cell?, h, judgedObj]

theorem judge_in (n m : Nat) (en : Int) (capped : Bool) (w : World) (h1 : 1 ≤ n) (h2 : n ≤ 65536) (h3 : 1 ≤ m) (h4 : m ≤ 65536) :
    Calls Try.prog 4 #[.int .i64 n, .int .i64 m, .int .i64 en, .bool capped] w fun e w' => e = .returned (.bool true) ∧ Below w.heap.size w w' := by
  have i1 : ¬ (n : Int) < 1 := by omega
  have i2 : ¬ (65536 : Int) < n := by omega
  have i3 : ¬ (m : Int) < 1 := by omega
  have i4 : ¬ (65536 : Int) < m := by omega
  have hsf := @run_store_float
  go_enter Try.func4, Try.ntmps4
  go_wp2_with fail
  obtain ⟨w0, hw0⟩ : ∃ w0, w0 = w.alloc (.cells #[.slice none 0 0, .map none, .slice none 0 0] 34) := ⟨_, rfl⟩
  rw [← hw0]
  have hGlt : w.heap.size < w0.heap.size := by rw [hw0]; simp
  have hG0 : w0.cell? ⟨w.heap.size, 0, none⟩ = some (.slice none 0 0) := by rw [hw0]; simp [go_sem]
  have hb0 : Below w.heap.size w w0 := by rw [hw0]; exact (Below.refl _ _).alloc (Nat.le_refl _) _
  clear hw0
  refine (fresh_any n h2 _).mono ?_
  rintro e w1 ⟨rfl, hf1, hb1⟩
  go_wp2_with fail
  refine (zzjudge_fresh w.heap.size w0.heap.size n en capped h1 h2 _ ((hb1.cell hGlt).trans hG0) hf1).mono ?_
  rintro e w2 ⟨a, rfl, ha, hb2⟩
  unfold judged
  have hb02 : Below w0.heap.size w0 w2 := hb1.trans (hb2.mono hb1.size)
  clear hf1 hb1 hb2
  go_wp2_with fail
  obtain ⟨w3, hw3⟩ : ∃ w3, w3 = w2.alloc (.cells #[.int .i64 0, .int .i64 en, .bool capped, .bool false, .float .f64 oneBits, .int .i64 0, .float .f64 0, .slice a 0 0] 37) := ⟨_, rfl⟩
  rw [← hw3]
  have hz3 : w2.heap.size < w3.heap.size := by rw [hw3]; simp
  have hr3 : w3.heap[w2.heap.size]? = some (.cells #[.int .i64 0, .int .i64 en, .bool capped, .bool false, .float .f64 oneBits, .int .i64 0, .float .f64 0, .slice a 0 0] 37) := by rw [hw3]; exact blk_alloc_new _ _
  have hb03 : Below w0.heap.size w0 w3 := by rw [hw3]; exact hb02.alloc hb02.size _
  clear hw3
  refine (fresh_any m h4 _).mono ?_
  rintro e w4 ⟨rfl, hf4, hb4⟩
  go_wp2_with fail
  refine (zzjudge_fresh w.heap.size w3.heap.size m en capped h3 h4 _ ((hb4.cell (Nat.lt_of_lt_of_le hGlt hb03.size)).trans ((hb03.cell hGlt).trans hG0)) hf4).mono ?_
  rintro e w5 ⟨b, rfl, hb, hb5⟩
  unfold judged
  have hb35 : Below w3.heap.size w3 w5 := hb4.trans (hb5.mono hb4.size)
  clear hf4 hb4 hb5
  have hr5 : w5.heap[w2.heap.size]? = some (judgedObj en capped a) := (hb35.block w2.heap.size (by omega)).trans hr3
  clear hr3
  have hz5 := hb35.size
  have hlt5 : w2.heap.size < w5.heap.size := by omega
  obtain ⟨x0, x1, x2, x3, x4, x5, x6, x7⟩ := cells8 hr5
  go_wp2_with fail
  have hr6 : (w5.alloc (judgedObj en capped b)).heap[w5.heap.size]? = some (judgedObj en capped b) := blk_alloc_new _ _
  have hr6' : (w5.alloc (judgedObj en capped b)).heap[w2.heap.size]? = some (judgedObj en capped a) := (Below.heap_alloc w5 _ _ hlt5).trans hr5
  refine (judged_fresh en capped a ha _).mono ?_
  rintro e w6 ⟨rfl, hb6⟩
  have hs6 := hb6.size
  simp at hs6
  have hr7 := (hb6.block w5.heap.size (by simp)).trans hr6
  have hr7' := (hb6.block w2.heap.size (by simp; omega)).trans hr6'
  clear x0 x1 x2 x3 x4 x5 x6 x7 hr6 hr6'
  obtain ⟨x0, x1, x2, x3, x4, x5, x6, x7⟩ := cells8 hr7
  go_wp2_with fail
  refine (judged_fresh en capped b hb _).mono ?_
  rintro e w7 ⟨rfl, hb7⟩
  have hs7 := hb7.size
  have hr8 := (hb7.block w5.heap.size (by omega)).trans hr7
  have hr8' := (hb7.block w2.heap.size (by omega)).trans hr7'
  clear x0 x1 x2 x3 x4 x5 x6 x7 hr7 hr7'
  obtain ⟨x0, x1, x2, x3, x4, x5, x6, x7⟩ := cells8 hr8
  obtain ⟨y0, y1, y2, y3, y4, y5, y6, y7⟩ := cells8 hr8'
  go_wp2_with fail
  refine (same_result en capped a b ha hb _).mono ?_
  rintro e w8 ⟨rfl, hb8⟩
  clear x0 x1 x2 x3 x4 x5 x6 x7 y0 y1 y2 y3 y4 y5 y6 y7 hr8 hr8'
  go_wp2
  go_ret
  refine ⟨rfl, ?_⟩
  have k3 : Below w.heap.size w w3 := hb0.trans (hb03.mono (by omega))
  have k5 : Below w.heap.size w w5 := k3.trans (hb35.mono k3.size)
  have k6 : Below w.heap.size w w6 := (k5.alloc k5.size _).trans (hb6.mono (by simp; have := k5.size; omega))
  have k7 : Below w.heap.size w w7 := k6.trans (hb7.mono k6.size)
  exact k7.trans (hb8.mono k7.size)

end Go.Proofs.Qxb6608792a
