import Derived.Test.Qxb6608792aJudgeMid
import Derived.Maps.OwnSet
import Derived.Maps.OwnOps
import Derived.Deep.RegionLawGrows
namespace Go.Proofs.Qxb6608792a
open Go.RowKit Go.Deep Go.Maps
set_option maxRecDepth 100000
set_option maxHeartbeats 400000

theorem setBlock_id {w : World} {M : Nat} {o : Obj} (h : w.heap[M]? = some o) : { w with heap := w.heap.setIfInBounds M o } = w := by
  have e : w.heap.setIfInBounds M o = w.heap := by
    apply Array.ext_getElem?
    intro i
    rw [Array.getElem?_setIfInBounds]
    by_cases e : M = i
    · subst e
      have hlt : M < w.heap.size := (Array.getElem?_eq_some_iff.1 h).1
      rw [if_pos rfl, if_pos hlt, h]
    · rw [if_neg e]
  rw [e]

/-- A cell that is written with what it holds. -/
theorem setCell_id {w : World} {b o : Nat} {v : Value} (h : w.cell? ⟨b, o, none⟩ = some v) : w.setCell ⟨b, o, none⟩ v = w := by
  have e : (w.setCell ⟨b, o, none⟩ v).heap = w.heap := by
    apply Array.ext_getElem?
    intro i
    simp only [World.setCell, Array.getElem?_modify]
    by_cases e : b = i
    · subst e
      rw [if_pos rfl]
      unfold World.cell? at h
      cases hb : w.heap[b]? with
      | none => rfl
      | some ob =>
        rw [hb] at h
        cases ob <;> simp_all
        rename_i c el fr
        apply Array.ext_getElem?
        intro k
        rw [Array.getElem?_setIfInBounds]
        by_cases ek : o = k
        · subst ek
          have hlt : o < c.size := (Array.getElem?_eq_some_iff.1 h).1
          rw [if_pos rfl, if_pos hlt, h]
        · rw [if_neg ek]
    · rw [if_neg e]
  unfold World.setCell at e ⊢
  simp only at e
  rw [e]

theorem run_clear_empty (w : World) (M : Nat) (ty : TypeId) (h : w.heap[M]? = some (.map #[] 0)) : (Builtin.clear_ #[53] ty #[.map (some M)]).run Try.prog w = .ok (.tuple #[]) w := by
  have hg : (getObj M).run Try.prog w = .ok (.map #[] 0) w := by simp [getObj, Sem.run, h]
  have hs : (setObj M (.map #[] 0)).run Try.prog w = .ok () w := by
    have := setBlock_id h
    simp [setObj, Sem.run, h, this]
  simp [Builtin.clear_, run_underlying Try.underlying53, hg, hs, Result.andThen]

/-- 'clear(m)' of an empty map, for the walk. -/
theorem wpList_clear_empty (w : World) {ops : Array Oper} {rest : List Oper} {o : Oper} {a : Act} {Q : Exit → Act → World → Prop}
    (hg : o.guard = none) (m : Operand) (hop : o.op = Op.call { callee := Callee.builtin Builtin.clear, args := #[m], argTypes := #[53] }) (M : Nat) (hm : a.eval m = .map (some M)) (h : w.heap[M]? = some (.map #[] 0))
    (hK : wpList Try.prog ops Q rest (a.put o.dst (.tuple #[])) w) : wpList Try.prog ops Q (o :: rest) a w := by
  refine wpList_plain hg fun K' hK' => ?_
  unfold Oper.wp
  simp [execOp, hop, resolve, invoke, builtin, hm, run_clear_empty w M o.type h, Result.andThen]
  exact hK' _ _ hK

theorem law23 : Keyed Try.prog 23 := int_keyed Try.underlying23
theorem zero21 (w : World) : (zeroValue 21).run Try.prog w = .ok (.int .i32 0) w := by kernel_rfl
theorem key0 : keyOf Try.prog 23 (.int .u64 0) = some (.int .u64 0) := keyOf_int_mk Try.underlying23 (by decide)
def D1 : DataW Unit := (DataW.map []).put (.int .u64 0) (.lit (.int .i32 0))
theorem D1_at : D1.atKey (.int .u64 0) (.lit (.int .i32 0)) = .lit (.int .i32 0) := rfl
theorem D1_has : Maps.has D1 (.int .u64 0) = true := by decide

theorem look0 {w : World} {M : Nat} (h : w.ownsMap Try.prog 23 (plainElem (H := Unit) Try.prog 21) M 0 (.map [])) :
    (Instr.lookup 53 (.map (some M)) (.int .u64 0) true).run Try.prog w = .ok (.tuple #[.int .i32 0, .bool false]) w := by
  obtain ⟨v, ps, hrun, hv⟩ := h.look_ok law23 Try.underlying53 (zero21 w) (plainElem_int Try.underlying21 (by decide)) key0
  obtain ⟨c, rfl, hc, hwc⟩ := plainElem_int_inv Try.underlying21 hv
  have hc0 : c = 0 := by
    have h1 := congrArg Prod.fst hc
    simp only [] at h1
    have h2 : (DataW.map ([] : List (Lit × DataW Unit))).atKey (.int .u64 0) (.lit (.int .i32 0)) = .lit (.int .i32 0) := rfl
    rw [h2] at h1
    simpa using h1.symm
  subst hc0
  exact hrun

theorem look1 {w : World} {M : Nat} (h : w.ownsMap Try.prog 23 (plainElem (H := Unit) Try.prog 21) M 1 D1) :
    (Instr.lookup 53 (.map (some M)) (.int .u64 0) true).run Try.prog w = .ok (.tuple #[.int .i32 0, .bool true]) w := by
  obtain ⟨v, ps, hrun, hv⟩ := h.look_ok law23 Try.underlying53 (zero21 w) (plainElem_int Try.underlying21 (by decide)) key0
  obtain ⟨c, rfl, hc, hwc⟩ := plainElem_int_inv Try.underlying21 hv
  have hc0 : c = 0 := by
    have h1 := congrArg Prod.fst hc
    simp only [] at h1
    rw [D1_at] at h1
    simpa using h1.symm
  subst hc0
  rw [D1_has] at hrun
  exact hrun

/-- The struct's own block: sets, classes, of, byHash. -/
def clsObj (cl : Value) (O n M : Nat) : Obj := .cells #[.slice none 0 0, cl, .slice (some ⟨O, 0, none⟩) n n, .map (some M)] 55

/-- At the head of round j ≥ 1. -/
structure T1 (w0 wr : World) (C O M n j K cap : Nat) : Prop where
  below : Below w0.heap.size w0 wr
  cls : wr.heap[C]? = some (clsObj (.slice (some ⟨K, 0, none⟩) 1 cap) O n M)
  row : ∃ f, wr.rowIs O 21 n f
  map : wr.ownsMap Try.prog 23 (plainElem (H := Unit) Try.prog 21) M 1 D1
  own : ∃ cur : Array Value, wr.heap[K]? = some (.cells cur 67) ∧ cur[0]? = some (.int .i64 0) ∧ cur[1]? = some (.int .i64 0) ∧ cur[2]? = some (.int .i64 j) ∧ cur[3]? = some (.int .i32 (-1))

theorem T1.step {w0 wr : World} {C O M n j K cap : Nat} (h : T1 w0 wr C O M n j K cap) (bO : w0.heap.size ≤ O) (bK : w0.heap.size ≤ K) (q : Nat) :
    T1 w0 (((wr.setCell ⟨O, j, none⟩ (.int .i32 0)).setCell ⟨K, 2, none⟩ (.int .i64 ((j : Int) + 1))).drewN q) C O M n (j + 1) K cap := by
  obtain ⟨f, hrow⟩ := h.row
  obtain ⟨cur, hk, k0, k1, k2, k3⟩ := h.own
  have hOb := hrow
  obtain ⟨oc, ho, -, -⟩ := hOb
  have hCO : C ≠ O := fun e => by have := h.cls; rw [e, ho] at this; simp [clsObj] at this
  have hCK : C ≠ K := fun e => by have := h.cls; rw [e, hk] at this; simp [clsObj] at this
  have hKO : K ≠ O := fun e => by rw [e, ho] at hk; simp at hk
  obtain ⟨es, clock, hm, hrest⟩ := h.map
  have hMO : M ≠ O := fun e => by rw [e, ho] at hm; simp at hm
  have hMK : M ≠ K := fun e => by rw [e, hk] at hm; simp at hm
  refine ⟨below_drewN ((h.below.setCell bO _).setCell bK _) _, ?_, ⟨_, ((hrow.set j _).setOther (fun e => hKO e.symm) _)⟩, ?_, ?_⟩
  · show ((wr.setCell _ _).setCell _ _).heap[C]? = _
    rw [Below.heap_setCell _ _ _ _ hCK, Below.heap_setCell _ _ _ _ hCO]
    exact h.cls
  · exact ((h.map.setCell hMO _).setCell hMK _)
  · refine ⟨cur.setIfInBounds 2 (.int .i64 ((j : Int) + 1)), ?_, ?_, ?_, ?_, ?_⟩
    · show ((wr.setCell _ _).setCell _ _).heap[K]? = _
      have e1 : (wr.setCell ⟨O, j, none⟩ (.int .i32 0)).heap[K]? = some (.cells cur 67) := by rw [Below.heap_setCell _ _ _ _ hKO]; exact hk
      exact heap_setCell_same _ K 2 cur 67 _ e1
    · rw [Array.getElem?_setIfInBounds]; simpa using k0
    · rw [Array.getElem?_setIfInBounds]; simpa using k1
    · rw [Array.getElem?_setIfInBounds]
      have hlt : 2 < cur.size := (Array.getElem?_eq_some_iff.1 k2).1
      simp [hlt]
    · rw [Array.getElem?_setIfInBounds]; simpa using k3

theorem T1.step0 {w0 wr : World} {C O M n K cap : Nat} (h : T1 w0 wr C O M n 0 K cap) (bO : w0.heap.size ≤ O) (bK : w0.heap.size ≤ K) :
    T1 w0 ((wr.setCell ⟨O, 0, none⟩ (.int .i32 0)).setCell ⟨K, 2, none⟩ (.int .i64 1)) C O M n 1 K cap := h.step bO bK 0

/-- What the round reads, out of T1. -/
theorem T1.reads {w0 wr : World} {C O M n j K cap : Nat} (h : T1 w0 wr C O M n j K cap) (hj : j < n) :
    wr.cell? ⟨C, 1, none⟩ = some (.slice (some ⟨K, 0, none⟩) 1 cap) ∧ wr.cell? ⟨C, 2, none⟩ = some (.slice (some ⟨O, 0, none⟩) n n) ∧ wr.cell? ⟨K, 2, none⟩ = some (.int .i64 j) ∧ wr.frozen? ⟨K, 2, none⟩ = false ∧
    (∃ v, wr.cell? ⟨O, j, none⟩ = some v) ∧ wr.frozen? ⟨O, j, none⟩ = false ∧ C ≠ O ∧ C ≠ K ∧ K ≠ O := by
  obtain ⟨f, hrow⟩ := h.row
  obtain ⟨cur, hkk, k0, k1, k2, k3⟩ := h.own
  have hc := h.cls
  refine ⟨by simp [World.cell?, hc, clsObj], by simp [World.cell?, hc, clsObj], by simp [World.cell?, hkk, k2], by simp [World.frozen?, hkk], ⟨_, hrow.cell hj⟩, hrow.frozen j, ?_, ?_, ?_⟩
  · intro e; obtain ⟨oc, ho, -, -⟩ := hrow; rw [e, ho] at hc; simp [clsObj] at hc
  · intro e; rw [e, hkk] at hc; simp [clsObj] at hc
  · intro e; obtain ⟨oc, ho, -, -⟩ := hrow; rw [e, ho] at hkk; simp at hkk

/-- The first class: behind the append, the store into the field, the store into the map. -/
theorem T1.born {w0 wr w' w2 : World} {C O M n G cap : Nat} {o : Obj} {cur : Array Value} {f : Nat → Value} (hb : Below w0.heap.size w0 wr) (bC : w0.heap.size ≤ C) (bM : w0.heap.size ≤ M)
    (hO : wr.rowIs O 21 n f) (hM : wr.heap[M]? = some (.map #[] 0)) (hCw : w'.heap[C]? = some (clsObj (.slice none 0 0) O n M))
    (hG : (wr.alloc o).drew.heap.size ≤ G) (hgh : w'.heap[G]? = some (.cells cur 67)) (q0 : cur[0]? = some (.int .i64 0)) (q1 : cur[1]? = some (.int .i64 0)) (q2 : cur[2]? = some (.int .i64 0)) (q3 : cur[3]? = some (.int .i32 (-1)))
    (hgrow : (wr.alloc o).drew.grownBy w' none)
    (hown2 : w2.ownsMap Try.prog 23 (plainElem (H := Unit) Try.prog 21) M 1 D1) (hgrow2 : (w'.setCell ⟨C, 1, none⟩ (.slice (some ⟨G, 0, none⟩) 1 cap)).grownBy w2 (some M)) :
    w0.heap.size ≤ G ∧ T1 w0 w2 C O M n 0 G cap := by
  have hOlt := hO.lt
  have hMlt : M < wr.heap.size := (Array.getElem?_eq_some_iff.1 hM).1
  have hs1 := hgrow.size
  have hs0 := hb.size
  simp at hs1 hG
  have hGlt : G < w'.heap.size := (Array.getElem?_eq_some_iff.1 hgh).1
  have hClt : C < w'.heap.size := (Array.getElem?_eq_some_iff.1 hCw).1
  have hblk : ∀ k, k < wr.heap.size → w'.heap[k]? = wr.heap[k]? := fun k hk => (hgrow.block k (by simp; omega) (by simp)).trans (Below.heap_alloc wr _ k hk)
  have hbw' : Below w0.heap.size w0 w' := hb.trans ⟨hgrow.os, hgrow.tape, hgrow.output, by omega, fun k hk => hblk k (by omega)⟩
  obtain ⟨oc, ho, hoc, hof⟩ := hO
  have hO' : w'.heap[O]? = some (.cells oc 21 (0, 0)) := (hblk O hOlt).trans ho
  have hM' : w'.heap[M]? = some (.map #[] 0) := (hblk M hMlt).trans hM
  have hCO : O ≠ C := fun e => by rw [e, hCw] at hO'; simp [clsObj] at hO'
  have hCG : G ≠ C := fun e => by rw [e, hCw] at hgh; simp [clsObj] at hgh
  have hOM : O ≠ M := fun e => by rw [e, hM'] at hO'; simp at hO'
  have hGM : G ≠ M := fun e => by rw [e, hM'] at hgh; simp at hgh
  have hCM : C ≠ M := fun e => by rw [e, hM'] at hCw; simp [clsObj] at hCw
  have hkeep : ∀ k, k < w'.heap.size → k ≠ M → w2.heap[k]? = (w'.setCell ⟨C, 1, none⟩ (.slice (some ⟨G, 0, none⟩) 1 cap)).heap[k]? := fun k hk hne => hgrow2.block k (by simpa using hk) (by simpa using hne)
  refine ⟨by omega, ⟨(hbw'.setCell bC _).grown hgrow2 (by have := hbw'.size; simpa using this) (fun k hk => by cases hk; exact bM), ?_, ⟨f, oc, ?_, hoc, hof⟩, hown2, cur, ?_, q0, q1, q2, q3⟩⟩
  · rw [hkeep C hClt hCM, heap_setCell_same w' C 1 _ 55 _ hCw]
    rfl
  · rw [hkeep O (by omega) hOM, Below.heap_setCell _ _ _ _ hCO]
    exact hO'
  · rw [hkeep G hGlt hGM, Below.heap_setCell _ _ _ _ hCG]
    exact hgh

theorem Try.info67 : (Try.prog.info? 67).map (fun i => (i.zero, i.size, i.bytes)) = some (some (.agg #[.int .i64 0, .int .i64 0, .int .i64 0, .int .i32 0]), 4, 32) := by kernel_rfl

/-- 'append(nil, a class)' as one step of a region that draws: the new row, its head written out. -/
theorem step_class {ops : Array Oper} {o : Oper} {a : Act} {w : World} {K : Act → World → Prop} {Q : Exit → Act → World → Prop} {E : Prop}
    (hg : o.guard = none) (s x : Operand) (hop : o.op = Op.call { callee := Callee.builtin Builtin.append, args := #[s, x], argTypes := #[51, 51] })
    (hs : a.eval s = .slice none 0 0) (b : Nat) (hx : a.eval x = .slice (some ⟨b, 0, none⟩) 1 1)
    (x0 : w.cell? ⟨b, 0, none⟩ = some (.int .i64 0)) (x1 : w.cell? ⟨b, 1, none⟩ = some (.int .i64 0)) (x2 : w.cell? ⟨b, 2, none⟩ = some (.int .i64 0)) (x3 : w.cell? ⟨b, 3, none⟩ = some (.int .i32 (-1)))
    (hK : ∀ G cap w' cur, w.heap.size ≤ G → w'.heap[G]? = some (.cells cur 67) → cur[0]? = some (.int .i64 0) → cur[1]? = some (.int .i64 0) → cur[2]? = some (.int .i64 0) → cur[3]? = some (.int .i32 (-1)) → w.grownBy w' none →
      K (a.put o.dst (.slice (some ⟨G, 0, none⟩) 1 cap)) w') :
    if Region.wanted o (yielded ops a.tmps) = true then Oper.wp Try.prog o a w K Q else E := by
  obtain ⟨i0, hi, hz0, hz1, hz2⟩ := info_parts Try.info67
  refine step_append_grows hg s x 51 hop 67 i0 _ 4 32 Try.underlying51 hi hz0 hz1 hz2 rfl (by decide) none 0 0 [] hs (fun _ => ⟨rfl, rfl⟩) rfl (fun _ h => by cases h) ⟨b, 0, none⟩ 1 1 [.int .i64 0, .int .i64 0, .int .i64 0, .int .i32 (-1)] hx rfl ?_ ?_ (by decide) (by decide) (by decide) ?_
  · intro j u hj
    match j, hj with
    | 0, hj => simp at hj; subst hj; simpa [Addr.add] using x0
    | 1, hj => simp at hj; subst hj; simpa [Addr.add] using x1
    | 2, hj => simp at hj; subst hj; simpa [Addr.add] using x2
    | 3, hj => simp at hj; subst hj; simpa [Addr.add] using x3
  · intro u hu
    simp at hu
    rcases hu with rfl | rfl <;> rfl
  · intro v' w' hown hgrow
    rcases hown.2 with ⟨_, h⟩ | ⟨G, cap, cur, rfl, hbg, hgh, hnc, _, hcs, htake⟩
    · simp at h
    · have hat : ∀ j, j < 4 → cur[j]? = [Value.int .i64 0, .int .i64 0, .int .i64 0, .int .i32 (-1)][j]? := fun j hj => by
        have h1 := congrArg (fun l => l[j]?) htake
        simp only [List.getElem?_take] at h1
        rw [if_pos (by omega)] at h1
        simpa using h1
      exact hK G cap w' cur hbg hgh (hat 0 (by omega)) (hat 1 (by omega)) (hat 2 (by omega)) (hat 3 (by omega)) hgrow

end Go.Proofs.Qxb6608792a
