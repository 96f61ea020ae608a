import Derived.Test.Qxb6608830aDoorTo
import Derived.Test.Qxb6608830aDoorShelf
import Derived.Lib.BufferOwn
import Derived.Lib.AppendIntMem
import Derived.Deep.RegionHeld3
import Derived.Deep.RegionLaw
namespace Go.Proofs.Qxb6608830aDoor
open Go.RowKit Go.Deep
set_option maxRecDepth 100000
set_option maxHeartbeats 1000000

/-- strconv.Itoa, in a world that has grown since the table was read. -/
theorem itoa_b (n : Int) (h0 : -9223372036854775808 ≤ n) (h1 : n ≤ 9223372036854775807) (w0 w : World) (htab : Lib.TabIs Tryd.prog w0 tabName .u64 Lib.pow10Tab) (hb : Below w0.heap.size w0 w) :
    Calls Tryd.prog 19 #[.int .i64 n] w fun e w' => e = .returned (.string ⟨(Lib.itoa n).toArray⟩) ∧ Below w.heap.size w w' := by
  refine (itoa_any n h0 h1 w ((Lib.tabBelow_of_tabIs htab) w hb)).mono ?_
  rintro e w' ⟨rfl, k, os, rfl⟩
  exact ⟨rfl, Lib.below_grow _ _ (Nat.le_refl _) _ _⟩

/-- A line of four words at block q. -/
def Line4 (w : World) (q : Nat) (name ip : ByteArray) (port prio : Int) : Prop :=
  w.cell? ⟨q, 0, none⟩ = some (.string name) ∧ w.cell? ⟨q, 1, none⟩ = some (.string ip) ∧ w.cell? ⟨q, 2, none⟩ = some (.string ⟨(Lib.itoa port).toArray⟩) ∧ w.cell? ⟨q, 3, none⟩ = some (.string ⟨(Lib.itoa prio).toArray⟩)

theorem Line4.kept {w w' : World} {q : Nat} {name ip : ByteArray} {port prio : Int} (h : Line4 w q name ip port prio) (hb : w'.heap[q]? = w.heap[q]?) : Line4 w' q name ip port prio :=
  ⟨(World.cell?_of_block (a := ⟨q, 0, none⟩) hb).trans h.1, (World.cell?_of_block (a := ⟨q, 1, none⟩) hb).trans h.2.1, (World.cell?_of_block (a := ⟨q, 2, none⟩) hb).trans h.2.2.1, (World.cell?_of_block (a := ⟨q, 3, none⟩) hb).trans h.2.2.2⟩

theorem Line4.lt {w : World} {q : Nat} {name ip : ByteArray} {port prio : Int} (h : Line4 w q name ip port prio) : q < w.heap.size := World.block_lt_of_cell? _ _ h.1

/-- What holds while the k-th line is made: the cells that are read; nothing that was there at the round's head has turned but row R, and of that the k-th cell alone. -/
def Mid (w wr1 : World) (R m k : Nat) (f : Nat → Value) (w' : World) : Prop :=
  Below w.heap.size w w' ∧ wr1.grownBy w' (some R) ∧ ∃ f', w'.rowIs R 39 m f' ∧ ∀ j, j ≠ k → f' j = f j

theorem Mid.below {w wr1 w' w'' : World} {R m k : Nat} {f : Nat → Value} (h : Mid w wr1 R m k f w') (hR : R < w'.heap.size) (hb : Below w'.heap.size w' w'') : Mid w wr1 R m k f w'' := by
  obtain ⟨h1, h2, f', h3, h4⟩ := h
  exact ⟨h1.trans (hb.mono h1.size), Lib.grownBy_below h2 hb, f', h3.of_block (hb.block R hR), h4⟩

theorem Mid.alloc {w wr1 w' : World} {R m k : Nat} {f : Nat → Value} (h : Mid w wr1 R m k f w') (o : Obj) : Mid w wr1 R m k f (w'.alloc o) := by
  obtain ⟨h1, h2, f', h3, h4⟩ := h
  exact ⟨h1.alloc h1.size _, Lib.grownBy_allocR h2 o, f', h3.alloc o, h4⟩

theorem Mid.set {w wr1 w' : World} {R m k : Nat} {f : Nat → Value} (h : Mid w wr1 R m k f w') (hR : w.heap.size ≤ R) (v : Value) : Mid w wr1 R m k f (w'.setCell ⟨R, k, none⟩ v) := by
  obtain ⟨h1, h2, f', h3, h4⟩ := h
  refine ⟨h1.setCell hR _, Lib.grownBy_setB h2 k v, _, h3.set k v, fun j hj => ?_⟩
  show (if j = k then v else f' j) = f j
  rw [if_neg hj, h4 j hj]


section
variable {w wr1 w' w'' : World} {G P R m k : Nat} {name ip : ByteArray} {port prio : Int} {f : Nat → Value}
theorem keep_drew (h : (w'.cell? ⟨G, 0, none⟩ = some (.string name) ∧ w'.cell? ⟨P, 0, none⟩ = some (.string ip) ∧ w'.cell? ⟨P, 1, none⟩ = some (.int .i64 port) ∧ w'.cell? ⟨P, 2, none⟩ = some (.int .i64 prio) ∧ Mid w wr1 R m k f w')) : (w'.drew.cell? ⟨G, 0, none⟩ = some (.string name) ∧ w'.drew.cell? ⟨P, 0, none⟩ = some (.string ip) ∧ w'.drew.cell? ⟨P, 1, none⟩ = some (.int .i64 port) ∧ w'.drew.cell? ⟨P, 2, none⟩ = some (.int .i64 prio) ∧ Mid w wr1 R m k f w'.drew) :=
  ⟨h.1, h.2.1, h.2.2.1, h.2.2.2.1, ⟨h.2.2.2.2.1.drew, ⟨h.2.2.2.2.2.1.os, h.2.2.2.2.2.1.tape, h.2.2.2.2.2.1.output, h.2.2.2.2.2.1.size, h.2.2.2.2.2.1.block⟩, h.2.2.2.2.2.2⟩⟩
theorem keep_below (h : (w'.cell? ⟨G, 0, none⟩ = some (.string name) ∧ w'.cell? ⟨P, 0, none⟩ = some (.string ip) ∧ w'.cell? ⟨P, 1, none⟩ = some (.int .i64 port) ∧ w'.cell? ⟨P, 2, none⟩ = some (.int .i64 prio) ∧ Mid w wr1 R m k f w')) (hb : Below w'.heap.size w' w'') : (w''.cell? ⟨G, 0, none⟩ = some (.string name) ∧ w''.cell? ⟨P, 0, none⟩ = some (.string ip) ∧ w''.cell? ⟨P, 1, none⟩ = some (.int .i64 port) ∧ w''.cell? ⟨P, 2, none⟩ = some (.int .i64 prio) ∧ Mid w wr1 R m k f w'') := by
  obtain ⟨h1, h2, h3, h4, h5⟩ := h
  have hR : R < w'.heap.size := by obtain ⟨_, _, f', hr, _⟩ := h5; exact hr.lt
  exact ⟨(hb.cell (World.block_lt_of_cell? _ _ h1)).trans h1, (hb.cell (World.block_lt_of_cell? _ _ h2)).trans h2, (hb.cell (World.block_lt_of_cell? _ _ h3)).trans h3, (hb.cell (World.block_lt_of_cell? _ _ h4)).trans h4, h5.below hR hb⟩
theorem keep_alloc (h : (w'.cell? ⟨G, 0, none⟩ = some (.string name) ∧ w'.cell? ⟨P, 0, none⟩ = some (.string ip) ∧ w'.cell? ⟨P, 1, none⟩ = some (.int .i64 port) ∧ w'.cell? ⟨P, 2, none⟩ = some (.int .i64 prio) ∧ Mid w wr1 R m k f w')) (o : Obj) : ((w'.alloc o).cell? ⟨G, 0, none⟩ = some (.string name) ∧ (w'.alloc o).cell? ⟨P, 0, none⟩ = some (.string ip) ∧ (w'.alloc o).cell? ⟨P, 1, none⟩ = some (.int .i64 port) ∧ (w'.alloc o).cell? ⟨P, 2, none⟩ = some (.int .i64 prio) ∧ Mid w wr1 R m k f (w'.alloc o)) := keep_below h ((Below.refl _ _).alloc (Nat.le_refl _) _)
theorem keep_set (h : (w'.cell? ⟨G, 0, none⟩ = some (.string name) ∧ w'.cell? ⟨P, 0, none⟩ = some (.string ip) ∧ w'.cell? ⟨P, 1, none⟩ = some (.int .i64 port) ∧ w'.cell? ⟨P, 2, none⟩ = some (.int .i64 prio) ∧ Mid w wr1 R m k f w')) (hR : w.heap.size ≤ R) (hG : G ≠ R) (hP : P ≠ R) (v : Value) : ((w'.setCell ⟨R, k, none⟩ v).cell? ⟨G, 0, none⟩ = some (.string name) ∧ (w'.setCell ⟨R, k, none⟩ v).cell? ⟨P, 0, none⟩ = some (.string ip) ∧ (w'.setCell ⟨R, k, none⟩ v).cell? ⟨P, 1, none⟩ = some (.int .i64 port) ∧ (w'.setCell ⟨R, k, none⟩ v).cell? ⟨P, 2, none⟩ = some (.int .i64 prio) ∧ Mid w wr1 R m k f (w'.setCell ⟨R, k, none⟩ v)) := by
  obtain ⟨h1, h2, h3, h4, h5⟩ := h
  have hk : ∀ (x : Addr), x.block ≠ R → (w'.setCell ⟨R, k, none⟩ v).cell? x = w'.cell? x := fun x hx => World.cell?_of_block (w := w') (Below.heap_setCell _ _ _ _ hx)
  exact ⟨(hk _ hG).trans h1, (hk _ hP).trans h2, (hk _ hP).trans h3, (hk _ hP).trans h4, h5.set hR v⟩
end

/-- 'make([]T, 0, n)', T of one cell, for every world. -/
theorem run_make_room {P : Program} (t e : TypeId) (z : Value) (bytes : Nat) (ht : P.underlying t = some (.slice e)) (hinfo : (P.info? e).map (fun i => (i.zero, i.size, i.bytes)) = some (some z, 1, bytes)) (hz1 : z.cells = #[z])
    (n : Nat) (hbytes : bytes * n ≤ 281474976710656) (h63 : n ≤ 9223372036854775807) (w : World) :
    (Instr.makeSlice t (.int .i64 0) (.int .i64 (n : Int))).run P w = .ok (.slice (some ⟨w.heap.size, 0, none⟩) 0 n) (w.alloc (.cells (madeCells #[z] n) e)) := by
  obtain ⟨i, hi, hzz⟩ := Option.map_eq_some_iff.1 hinfo
  simp only [Prod.mk.injEq] at hzz
  obtain ⟨hz, hs, hb⟩ := hzz
  have hb' : (i.bytes : Int) * (n : Int) ≤ 281474976710656 := by
    have h : ((i.bytes * n : Nat) : Int) ≤ 281474976710656 := by rw [hb]; omega
    rwa [Int.natCast_mul] at h
  have hr := run_make (P := P) w t e i z ht hi hz .i64 .i64 0 n (by omega) (by omega) hb' (by omega)
  simp only [Int.toNat_natCast, hs, Nat.mul_one, hz1] at hr
  exact hr

theorem Tryd.info39 : (Tryd.prog.info? 39).map (fun i => (i.zero, i.size, i.bytes)) = some (some (.slice none 0 0), 1, 24) := by kernel_rfl

/-- The lines: cell j of row R holds a line of four words. -/
def Lines4 (w : World) (R k : Nat) (name : ByteArray) (ip : Nat → ByteArray) (port prio : Nat → Int) : Prop :=
  ∀ j, j < k → ∃ q, w.cell? ⟨R, j, none⟩ = some (.slice (some ⟨q, 0, none⟩) 4 4) ∧ Line4 w q name (ip j) (port j) (prio j)

theorem mid_of {w wr1 w' : World} {R m k : Nat} {f : Nat → Value} {a b c d : Prop} (h : a ∧ b ∧ c ∧ d ∧ Mid w wr1 R m k f w') : Mid w wr1 R m k f w' := h.2.2.2.2

/-- 'append(lines, one line)' within the capacity, as one step of a region that draws. -/
theorem step_room1 {ops : Array Oper} {o : Oper} {a : Act} {w w0 wr1 : World} {K : Act → World → Prop} {Q : Exit → Act → World → Prop} {E : Prop}
    (hg : o.guard = none) (s x : Operand) (hop : o.op = Op.call { callee := Callee.builtin Builtin.append, args := #[s, x], argTypes := #[26, 26] })
    (R k m : Nat) (hs : a.eval s = .slice (some ⟨R, 0, none⟩) k m) (hkm : k < m) (f : Nat → Value) (hM : Mid w0 wr1 R m k f w)
    (b : Nat) (v : Value) (hx : a.eval x = .slice (some ⟨b, 0, none⟩) 1 1) (hv : w.cell? ⟨b, 0, none⟩ = some v) (h1 : v.oneCell' = true)
    (hK : K (a.put o.dst (.slice (some ⟨R, 0, none⟩) (k + 1) m)) (w.setCell ⟨R, k, none⟩ v)) :
    if Region.wanted o (yielded ops a.tmps) = true then Oper.wp Tryd.prog o a w K Q else E := by
  obtain ⟨i0, hi, hz0, hz1, hz2⟩ := info_parts Tryd.info39
  obtain ⟨_, _, f', hrow, _⟩ := hM
  refine step_append_room hg s x 26 hop 39 i0 1 Tryd.underlying26 hi hz1 R 0 k m hs ⟨b, 0, none⟩ 1 1 [v] hx rfl ?_ ?_ (by omega) ?_ ?_
  · intro j u hj
    match j, hj with
    | 0, hj => simp at hj; subst hj; simpa [Addr.add] using hv
  · intro u hu
    simp at hu
    subst hu
    exact h1
  · intro j hj
    simp at hj
    subst hj
    simp only [Nat.zero_add, Nat.mul_one, Nat.add_zero]
    exact ⟨by rw [hrow.cell hkm]; rfl, hrow.frozen k⟩
  · simpa [World.setCells] using hK

theorem set_here {w wr1 W : World} {R m k : Nat} {f : Nat → Value} (hM : Mid w wr1 R m k f W) (hk : k < m) (v : Value) : (W.setCell ⟨R, k, none⟩ v).cell? ⟨R, k, none⟩ = some v := by
  obtain ⟨_, _, f', h3, _⟩ := hM
  exact World.cell?_setCell_same _ _ _ (h3.cell hk)

theorem line_new (w2 : World) (R k : Nat) (v o1 : Value) (name ip : ByteArray) (port prio : Int) (hR : R < w2.heap.size) :
    Line4 (((w2.alloc (.cells #[.string name, .string ip, .string ⟨(Lib.itoa port).toArray⟩, .string ⟨(Lib.itoa prio).toArray⟩] 9)).alloc (.cells #[o1] 39)).setCell ⟨R, k, none⟩ v) w2.heap.size name ip port prio := by
  have hb : ((((w2.alloc (.cells #[.string name, .string ip, .string ⟨(Lib.itoa port).toArray⟩, .string ⟨(Lib.itoa prio).toArray⟩] 9)).alloc (.cells #[o1] 39)).setCell ⟨R, k, none⟩ v)).heap[w2.heap.size]? = some (.cells #[.string name, .string ip, .string ⟨(Lib.itoa port).toArray⟩, .string ⟨(Lib.itoa prio).toArray⟩] 9) := by
    rw [Below.heap_setCell _ _ _ _ (by show w2.heap.size ≠ R; omega), Below.heap_alloc _ _ _ (by simp)]
    exact blk_alloc_new _ _
  refine ⟨?_, ?_, ?_, ?_⟩ <;> simp [World.cell?, hb]

theorem row_of {w wr1 W : World} {R m k : Nat} {f : Nat → Value} (hM : Mid w wr1 R m k f W) : ∃ f, W.rowIs R 39 m f := by
  obtain ⟨_, _, f', h3, _⟩ := hM
  exact ⟨f', h3⟩

theorem lines_step {w wr1 W : World} {R m k q : Nat} {f : Nat → Value} {name : ByteArray} {ip : Nat → ByteArray} {port prio : Nat → Int} (hk : k < m) (hM : Mid w wr1 R m k f W) (hrow : wr1.rowIs R 39 m f)
    (hL : Lines4 wr1 R k name ip port prio) (hc : W.cell? ⟨R, k, none⟩ = some (.slice (some ⟨q, 0, none⟩) 4 4)) (hq : Line4 W q name (ip k) (port k) (prio k)) : Lines4 W R (k + 1) name ip port prio := by
  obtain ⟨h1, h2, f', h3, h4⟩ := hM
  intro j hj
  by_cases e : j = k
  · subst e
    exact ⟨q, hc, hq⟩
  · obtain ⟨q', hc', hq'⟩ := hL j (by omega)
    have hqR : q' ≠ R := by
      intro e'
      subst e'
      obtain ⟨q0, hc0, _⟩ := hL 0 (by omega)
      have := hq'.1
      rw [hc0] at this
      cases this
    refine ⟨q', ?_, hq'.kept (h2.block q' hq'.lt (by simpa using hqR))⟩
    rw [h3.cell (by omega), h4 j e, ← hrow.cell (by omega)]
    exact hc'

theorem write4_any (G B m : Nat) (name : ByteArray) (ip : Nat → ByteArray) (port prio : Nat → Int) (w : World) (hm : m ≤ 65536)
    (htab : Lib.TabIs Tryd.prog w tabName .u64 Lib.pow10Tab) (hG0 : w.cell? ⟨G, 0, none⟩ = some (.string name)) (hG12 : w.cell? ⟨G, 12, none⟩ = some (.slice (some ⟨B, 0, none⟩) m m)) (hT : Trip w B 0 m ip port prio)
    (hp : ∀ i, -9223372036854775808 ≤ port i ∧ port i ≤ 9223372036854775807) (hq : ∀ i, -9223372036854775808 ≤ prio i ∧ prio i ≤ 9223372036854775807) :
    Calls Tryd.prog 17 #[.pointer (some ⟨G, 0, none⟩)] w fun e w' => ∃ R, e = .returned (.slice (some ⟨R, 0, none⟩) m m) ∧ Lines4 w' R m name ip port prio ∧ Below w.heap.size w w' := by
  have hGlt : G < w.heap.size := World.block_lt_of_cell? _ _ hG0
  obtain ⟨i0, hi, hz0, hz1, hz2⟩ := info_parts Tryd.info39
  have hmk := run_make_room (P := Tryd.prog) 26 39 (.slice none 0 0) 24 Tryd.underlying26 Tryd.info39 rfl m (by omega) (by omega)
  go_enter Tryd.func17, Tryd.ntmps17
  go_wp2
  go_loopw [3, 17] (fun l i wr => ∃ k : Nat, k ≤ m ∧ i = .int .i64 k ∧ l = .slice (some ⟨w.heap.size, 0, none⟩) k m ∧ Below w.heap.size w wr ∧ (∃ f, wr.rowIs w.heap.size 39 m f) ∧ Lines4 wr w.heap.size k name ip port prio) (fun _ i _ => m - (intOf i).toNat)
  case atStart => exact ⟨0, Nat.zero_le _, rfl, rfl, (Below.refl _ _).alloc (Nat.le_refl _) _, ⟨_, World.rowIs_made w _ m 39⟩, fun j hj => absurd hj (Nat.not_lt_zero _)⟩
  case round =>
    obtain ⟨k, hk, rfl, rfl, hb, ⟨f, hrow⟩, hL⟩ := hrel
    by_cases hlt : k < m
    · obtain ⟨h1, h2, h3⟩ := hT k hlt
      have hBlt : B < w.heap.size := World.block_lt_of_cell? _ _ h1
      rw [Nat.zero_add] at h1 h2 h3
      have g1 := (hb.cell (p := ⟨B, k * 3, none⟩) hBlt).trans h1
      have g2 := (hb.cell (p := ⟨B, k * 3 + 1, none⟩) hBlt).trans h2
      have g3 := (hb.cell (p := ⟨B, k * 3 + 2, none⟩) hBlt).trans h3
      have gG := (hb.cell (p := ⟨G, 0, none⟩) hGlt).trans hG0
      obtain ⟨hp1, hp2⟩ := hp k
      obtain ⟨hq1, hq2⟩ := hq k
      clear hT h1 h2 h3 hp hq
      go_wp2
      obtain ⟨wr1, hw1⟩ : ∃ x, x = wr.alloc (.cells #[.string (ip k), .int .i64 (port k), .int .i64 (prio k)] 51) := ⟨_, rfl⟩
      rw [← hw1]
      have hRlt : w.heap.size < wr.heap.size := hrow.lt
      have hC : wr1.cell? ⟨G, 0, none⟩ = some (.string name) ∧ wr1.cell? ⟨wr.heap.size, 0, none⟩ = some (.string (ip k)) ∧ wr1.cell? ⟨wr.heap.size, 1, none⟩ = some (.int .i64 (port k)) ∧ wr1.cell? ⟨wr.heap.size, 2, none⟩ = some (.int .i64 (prio k)) ∧ Mid w wr1 w.heap.size m k f wr1 := by
        subst hw1
        refine ⟨by simp [go_sem, gG, Nat.lt_trans hGlt hRlt], by simp [go_sem], by simp [go_sem], by simp [go_sem], hb.alloc hb.size _, ⟨rfl, rfl, rfl, Nat.le_refl _, fun _ _ _ => rfl⟩, f, hrow.alloc _, fun _ _ => rfl⟩
      have hL1 : Lines4 wr1 w.heap.size k name ip port prio := by
        subst hw1
        intro j hj
        obtain ⟨q, hc, hq⟩ := hL j hj
        exact ⟨q, by rw [← hc]; exact World.cell?_of_block (Below.heap_alloc _ _ _ hRlt), hq.kept (Below.heap_alloc _ _ _ hq.lt)⟩
      have hrow1 : wr1.rowIs w.heap.size 39 m f := by
        subst hw1
        exact hrow.alloc _
      clear hw1
      go_region_held3 (fun w' => w'.cell? ⟨G, 0, none⟩ = some (.string name) ∧ w'.cell? ⟨wr.heap.size, 0, none⟩ = some (.string (ip k)) ∧ w'.cell? ⟨wr.heap.size, 1, none⟩ = some (.int .i64 (port k)) ∧ w'.cell? ⟨wr.heap.size, 2, none⟩ = some (.int .i64 (prio k)) ∧ Mid w wr1 w.heap.size m k f w')
        (first | exact keep_drew (by assumption) | exact keep_below (by assumption) (by assumption) | exact keep_alloc (by assumption) _ | exact keep_set (by assumption) (by omega) (by omega) (by omega) _)
        (first
          | (go_at_call 19; refine (itoa_b _ (by assumption) (by assumption) w _ htab (mid_of (by assumption)).1).mono ?_; rintro e w2 ⟨rfl, hb2⟩)
          | (refine step_room1 rfl (.tmp 21) (.tmp 37) rfl w.heap.size k m rfl hlt f (mid_of (by assumption)) (w2.heap.size + 1) (.slice (some ⟨w2.heap.size, 0, none⟩) 4 4) rfl (by simp [go_sem]) rfl ?_))
      go_wp2
      go_roundw
      case rel =>
        have h12 : ∃ x, Below wr1.drew.heap.size wr1.drew x ∧ Below x.heap.size x w2 := ⟨_, by assumption, by assumption⟩
        obtain ⟨x, hx1, hx2⟩ := h12
        have hM2 : Mid w wr1 w.heap.size m k f w2 := mid_of (keep_below (keep_below (keep_drew hC) hx1) hx2)
        have hR2 : w.heap.size < w2.heap.size := by obtain ⟨_, h⟩ := row_of hM2; exact h.lt
        have hMf := ((hM2.alloc (.cells #[.string name, .string (ip k), .string ⟨(Lib.itoa (port k)).toArray⟩, .string ⟨(Lib.itoa (prio k)).toArray⟩] 9)).alloc (.cells #[.slice (some ⟨w2.heap.size, 0, none⟩) 4 4] 39))
        have hMF := hMf.set (Nat.le_refl _) (.slice (some ⟨w2.heap.size, 0, none⟩) 4 4)
        exact ⟨k + 1, by omega, by go_num, rfl, hMF.1, row_of hMF, lines_step (q := w2.heap.size) hlt hMF hrow1 hL1 (set_here hMf hlt _) (line_new _ _ _ _ _ _ _ _ _ hR2)⟩
      case measure => simp [intOf]; omega
    · have e : k = m := by omega
      subst e
      go_wp2
      go_ret
      exact ⟨_, rfl, hL, hb⟩
end Go.Proofs.Qxb6608830aDoor
