import Derived.Test.Qxb6608866aBuild
import Derived.Test.Qxb6608866aPlain
import Derived.Maps.OwnSet
namespace Go.Proofs.Qxb6608866a
open Go.RowKit Go.Deep Go.MapKept
open Go.Maps (Keyed)

/-- 'len(m)' at the operation. -/
theorem wpList_len_map {P : Program} (w : World) {ops : Array Oper} {rest : List Oper} {o : Oper} {a : Act} {Q : Exit → Act → World → Prop}
    (hg : o.guard = none) (m : Operand) (t : TypeId) (hop : o.op = Op.call { callee := Callee.builtin Builtin.len, args := #[m], argTypes := #[t] })
    (k e : TypeId) (ht : P.underlying t = some (.map k e)) (b : Nat) (es : Array MapEntry) (clock : Nat) (hm : a.eval m = .map (some b)) (hb : w.heap[b]? = some (.map es clock))
    (hK : wpList P ops Q rest (a.put o.dst (.int .i64 (es.size : Int))) w) :
    wpList P ops Q (o :: rest) a w := by
  refine wpList_plain hg fun K' hK' => ?_
  have hrun : (Builtin.len_ #[t] o.type #[.map (some b)]).run P w = .ok (.int .i64 (es.size : Int)) w := by
    simp [Builtin.len_, run_underlying ht, MapKept.run_getObj_map hb, goInt, Result.andThen]
  unfold Oper.wp
  simp [execOp, hop, resolve, invoke, builtin, hm, hrun, Result.andThen]
  exact hK' _ _ hK

/-- Nothing but the blocks ba and bf of w0 has turned. -/
structure Since2 (w0 wr : World) (ba bf : Nat) : Prop where
  os : wr.os = w0.os
  tape : wr.tape = w0.tape
  output : wr.output = w0.output
  size : w0.heap.size ≤ wr.heap.size
  block : ∀ i, i < w0.heap.size → i ≠ ba → i ≠ bf → wr.heap[i]? = w0.heap[i]?

theorem Since2.refl (w0 : World) (ba bf : Nat) : Since2 w0 w0 ba bf := ⟨rfl, rfl, rfl, Nat.le_refl _, fun _ _ _ _ => rfl⟩

theorem Since2.grown {w0 wr w' : World} {ba bf : Nat} {row : Option Nat} (h : Since2 w0 wr ba bf) (hg : wr.grownBy w' row) (hr : ∀ j, row = some j → w0.heap.size ≤ j ∨ j = ba ∨ j = bf) : Since2 w0 w' ba bf :=
  ⟨hg.os.trans h.os, hg.tape.trans h.tape, hg.output.trans h.output, Nat.le_trans h.size hg.size, fun i hi ha hf =>
    (hg.block i (Nat.lt_of_lt_of_le hi h.size) (fun e => by
      rcases hr i e.symm with h1 | h1 | h1
      · omega
      · exact ha h1
      · exact hf h1)).trans (h.block i hi ha hf)⟩

theorem Since2.below {B : Nat} {w w0 wr : World} {ba bf : Nat} (h0 : Below B w w0) (h : Since2 w0 wr ba bf) (hB : B ≤ w0.heap.size) (ha : B ≤ ba) (hf : B ≤ bf) : Below B w wr :=
  h0.trans ⟨h.os, h.tape, h.output, h.size, fun k hk => h.block k (by omega) (by omega) (by omega)⟩

/-- The children, the names, the parent. -/
structure Stage (w0 : World) (bm bk bn m : Nat) (s t : Nat → ByteArray) (es : Array MapEntry) (clock : Nat) (f : Nat → Value) : Prop where
  map : MapAt Try.prog 42 w0 bm es clock
  kid : ∀ x ∈ es.toList, ∃ a be, x.key = nm a ∧ a.1.size ≤ maxLen ∧ a.2.size ≤ maxLen ∧ (∃ i, i < m ∧ a = (s i, t i)) ∧ x.val = .pointer (some ⟨be, 0, none⟩) ∧ w0.heap[be]? = some (kidObj a)
  par : w0.heap[bn]? = some (parObj bm)
  row : w0.rowIs bk 42 (m * 2) f
  names : ∀ i, i < m → f (i * 2) = .string (s i) ∧ f (i * 2 + 1) = .string (t i)
  size : es.size ≤ m
  all : ∀ i, i < m → ∃ x ∈ es.toList, x.key = nm (s i, t i)

theorem Stage.of {w w1 : World} {m : Nat} {s t : Nat → ByteArray} {es : Array MapEntry} {clock : Nat} {f : Nat → Value} (h : Built w w1 m m s t es clock f) (hs : ∀ i, (s i).size ≤ maxLen) (ht : ∀ i, (t i).size ≤ maxLen) :
    Stage (w1.alloc (parObj w.heap.size)) w.heap.size (w.heap.size + 1) w1.heap.size m s t es clock f := by
  have hg := World.grownBy_alloc w1 (parObj w.heap.size) none
  refine ⟨h.map.kept hg (by simp), fun x hx => ?_, (MapKept.heap_alloc w1 _).1, h.row.alloc _, h.names, h.size, h.all⟩
  obtain ⟨i, be, hi, hk, hv, hb⟩ := h.kid x hx
  exact ⟨(s i, t i), be, hk, hs i, ht i, ⟨i, hi, rfl⟩, hv, ((MapKept.heap_alloc w1 _).2 be (Array.getElem?_eq_some_iff.1 hb).1).trans hb⟩

theorem Stage.kept {w0 wr : World} {bm bk bn m ba bf : Nat} {s t : Nat → ByteArray} {es : Array MapEntry} {clock : Nat} {f : Nat → Value} (h : Stage w0 bm bk bn m s t es clock f) (hs : Since2 w0 wr ba bf) (ha : bm ≠ ba) (hf : bm ≠ bf)
    (ma : ∀ cs ty fr, w0.heap[ba]? ≠ some (.cells cs ty fr)) (mf : ∀ cs ty fr, w0.heap[bf]? ≠ some (.cells cs ty fr)) : Stage wr bm bk bn m s t es clock f := by
  have cells : ∀ (b : Nat) cs ty fr, w0.heap[b]? = some (.cells cs ty fr) → wr.heap[b]? = some (.cells cs ty fr) := fun b cs ty fr hb =>
    (hs.block b (Array.getElem?_eq_some_iff.1 hb).1 (fun e => ma cs ty fr (e ▸ hb)) (fun e => mf cs ty fr (e ▸ hb))).trans hb
  refine ⟨⟨(hs.block bm h.map.lt ha hf).trans h.map.blk, h.map.stamped, h.map.keys⟩, fun x hx => ?_, cells bn _ _ _ h.par, ?_, h.names, h.size, h.all⟩
  · obtain ⟨a, be, h1, h2, h3, h4, h5, h6⟩ := h.kid x hx
    exact ⟨a, be, h1, h2, h3, h4, h5, cells be _ _ _ h6⟩
  · obtain ⟨c, hc, r⟩ := h.row
    exact ⟨c, cells bk _ _ _ hc, r⟩

theorem Stage.kidKey {w0 : World} {bm bk bn m : Nat} {s t : Nat → ByteArray} {es : Array MapEntry} {clock : Nat} {f : Nat → Value} (h : Stage w0 bm bk bn m s t es clock f) : ∀ x ∈ es.toList, KidKey x := fun x hx => by
  obtain ⟨a, be, h1, h2, h3, _, h5, _⟩ := h.kid x hx
  exact ⟨a, be, h1, h2, h3, h5⟩

theorem Stage.parCell {w0 : World} {bm bk bn m : Nat} {s t : Nat → ByteArray} {es : Array MapEntry} {clock : Nat} {f : Nat → Value} (h : Stage w0 bm bk bn m s t es clock f) : w0.cell? ⟨bn, 24, none⟩ = some (.map (some bm)) := by
  simp [World.cell?, h.par, parObj]

theorem kid_cells {w : World} {be : Nat} {a : ByteArray × ByteArray} (h : w.heap[be]? = some (kidObj a)) : w.cell? ⟨be, 0, none⟩ = some (.string a.1) ∧ w.cell? ⟨be, 1, none⟩ = some (.string a.2) := by
  constructor <;> simp [World.cell?, h, kidObj]

end Go.Proofs.Qxb6608866a
