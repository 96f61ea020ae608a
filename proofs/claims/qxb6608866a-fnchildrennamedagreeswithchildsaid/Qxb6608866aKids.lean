import Derived.Test.Qxb6608866aTab
import Derived.OwnWalk
import Derived.Deep.Strs
namespace Go.Proofs.Qxb6608866a
open Go.RowKit Go.Deep Go.MapKept
open Go.Maps (Keyed)
set_option maxRecDepth 100000
set_option maxHeartbeats 1000000

/-- A child's block: a node with a name. -/
def kidObj (a : ByteArray × ByteArray) : Obj :=
  .cells #[.string a.1, .string a.2, .int .i64 0, .int .i8 0, .pointer none, .string ⟨#[]⟩, .bool false, .pointer none, .slice none 0 0, .slice none 0 0, .slice none 0 0, .slice none 0 0, .bool false, .bool false, .int .i64 0, .int .i64 0, .slice none 0 0, .slice none 0 0, .slice none 0 0, .slice none 0 0, .pointer none, .int .i64 0, .pointer none, .pointer none, .map none, .map none, .map none, .map none, .slice none 0 0] 57

/-- A node's block that has children. -/
def parObj (bm : Nat) : Obj :=
  .cells #[.string ⟨#[]⟩, .string ⟨#[]⟩, .int .i64 0, .int .i8 0, .pointer none, .string ⟨#[]⟩, .bool false, .pointer none, .slice none 0 0, .slice none 0 0, .slice none 0 0, .slice none 0 0, .bool false, .bool false, .int .i64 0, .int .i64 0, .slice none 0 0, .slice none 0 0, .slice none 0 0, .slice none 0 0, .pointer none, .int .i64 0, .pointer none, .pointer none, .map (some bm), .map none, .map none, .map none, .slice none 0 0] 57

theorem par_any (bm : Nat) (w : World) : Calls Try.prog 20 #[.map (some bm)] w fun e w' => e = .returned (.pointer (some ⟨w.heap.size, 0, none⟩)) ∧ w' = w.alloc (parObj bm) := by
  go_enter Try.func20, Try.ntmps20
  go_wp2
  go_ret
  exact ⟨rfl, rfl⟩

/-- A name's identifier. -/
def ident : Value → ByteArray
  | .agg #[.string _, .string y] => y
  | _ => ByteArray.empty

/-- What every entry of a map of children is. -/
def KidKey (x : MapEntry) : Prop := ∃ (a : ByteArray × ByteArray) (be : Nat), x.key = nm a ∧ a.1.size ≤ maxLen ∧ a.2.size ≤ maxLen ∧ x.val = .pointer (some ⟨be, 0, none⟩)

/-- The range loop's step over a map of children. -/
theorem wpList_next_kids {P : Program} (w : World) {ops : Array Oper} {rest : List Oper} {o : Oper} {a : Act} {Q : Exit → Act → World → Prop}
    (hg : o.guard = none) (it : Operand) (hop : o.op = Op.next it false) (r bm clock : Nat) (seen : Array Nat) (es : Array MapEntry) (hit : a.eval it = .pointer (some ⟨r, 0, none⟩))
    (hr : w.heap[r]? = some (.mapIter (some bm) clock seen clock)) (hb : w.heap[bm]? = some (.map es clock)) (hst : Stamped es clock) (hk : ∀ x ∈ es.toList, KidKey x)
    (hDone : (leftOf es seen).size = 0 → wpList P ops Q rest (a.put o.dst (.tuple #[.bool false])) w)
    (hMore : ∀ (e : MapEntry) (x y : ByteArray) (be : Nat) (w' : World), e ∈ (leftOf es seen).toList → e.key = .agg #[.string x, .string y] → e.val = .pointer (some ⟨be, 0, none⟩) →
      w'.heap[r]? = some (.mapIter (some bm) clock (seen.push e.born) clock) → w.grownBy w' (some r) → w'.heap.size = w.heap.size →
      (Instr.entry (.pointer (some ⟨r, 0, none⟩))).run P w' = .ok (.tuple #[.agg #[.string x, .string y], .pointer (some ⟨be, 0, none⟩)]) w' →
      wpList P ops Q rest (a.put o.dst (.tuple #[.bool true, .agg #[.string x, .string y], .pointer (some ⟨be, 0, none⟩)])) w') :
    wpList P ops Q (o :: rest) a w := by
  have hne : r ≠ bm := fun e => by rw [e, hb] at hr; cases hr
  refine wpList_plain hg fun K' hK' => ?_
  unfold Oper.wp
  rcases run_next_at (P := P) w o.type r bm clock clock seen es clock hr hb hst.1 (Nat.le_refl _) with ⟨h0, hrun⟩ | ⟨e, he, w1, hal, hrun⟩
  · simp [execOp, hop, hit, hrun, Result.andThen]
    exact hK' _ _ (hDone h0)
  · obtain ⟨hem, _⟩ := mem_left he
    obtain ⟨⟨x, y⟩, be, hkey, _, _, hval⟩ := hk e hem
    have hr1 : w1.heap[r]? = some (.mapIter (some bm) clock seen clock) := by rcases hal with rfl | rfl <;> exact hr
    have hb1 : w1.heap[bm]? = some (.map es clock) := by rcases hal with rfl | rfl <;> exact hb
    have hset := heap_set (o' := .mapIter (some bm) clock (seen.push e.born) clock) hr1
    have hb' : (ChangeMaps.setBlock w1 r (.mapIter (some bm) clock (seen.push e.born) clock)).heap[bm]? = some (.map es clock) := (hset.2 bm (fun e1 => hne e1.symm)).trans hb1
    have hen := run_entry_at (P := P) _ r bm clock seen es clock e hset.1 hb' hem hst.2.1
    simp only [nm] at hkey
    rw [hkey, hval] at hrun hen
    simp [execOp, hop, hit, hrun, Result.andThen]
    refine hK' _ _ (hMore e x y be _ he hkey hval hset.1 ?_ ?_ hen)
    · rcases hal with rfl | rfl <;> exact ⟨rfl, rfl, rfl, by simp [ChangeMaps.setBlock], fun i _ hi => hset.2 i (fun e1 => hi (by rw [e1]))⟩
    · rcases hal with rfl | rfl <;> simp [ChangeMaps.setBlock]

/-- The loop over the children under way. -/
structure Going (w wr : World) (bm : Nat) (es : Array MapEntry) (clock : Nat) (id : ByteArray) (v : Value) (seen : Array Nat) (G : List MapEntry) : Prop where
  grown : w.grownBy wr none
  iter : wr.heap[w.heap.size]? = some (.mapIter (some bm) clock seen clock)
  row : wr.ownsRow (w.heap.size + 1) 37 1 v G.length (G.map (·.val))
  nodup : G.Nodup
  mem : ∀ x, x ∈ G ↔ (x ∈ es.toList ∧ seen.contains x.born = true ∧ ident x.key = id)
  nil : G = [] → v = .slice none 0 0

/-- What ChildrenNamed hands back. -/
structure Got (w w' : World) (es : Array MapEntry) (id : ByteArray) (v : Value) (G : List MapEntry) : Prop where
  grown : w.grownBy w' none
  row : w'.ownsRow (w.heap.size + 1) 37 1 v G.length (G.map (·.val))
  nodup : G.Nodup
  mem : ∀ x, x ∈ G ↔ (x ∈ es.toList ∧ ident x.key = id)
  nil : G = [] → v = .slice none 0 0

theorem Try.info37 : (Try.prog.info? 37).map (fun i => (i.zero, i.size, i.bytes)) = some (some (.pointer none), 1, 8) := by kernel_rfl
theorem Try.info37' : ∃ i, Try.prog.info? 37 = some i ∧ i.zero = some (.pointer none) ∧ i.size = 1 ∧ i.bytes = 8 := by
  have h := Try.info37
  obtain ⟨i, hi, e⟩ := Option.map_eq_some_iff.1 h
  simp only [Prod.mk.injEq] at e
  exact ⟨i, hi, e.1, e.2.1, e.2.2⟩

theorem going_start {w wr : World} {bm : Nat} {es : Array MapEntry} {clock : Nat} {id : ByteArray} (hg : w.grownBy wr none) (hi : wr.heap[w.heap.size]? = some (.mapIter (some bm) clock #[] clock)) : Going w wr bm es clock id (.slice none 0 0) #[] [] :=
  ⟨hg, hi, World.ownsRow_nil _ _ _ _, List.nodup_nil, by simp, fun _ => rfl⟩

/-- An entry came that is not named so. -/
theorem Going.pass {w wr w1 : World} {bm : Nat} {es : Array MapEntry} {clock : Nat} {id : ByteArray} {v : Value} {seen : Array Nat} {G : List MapEntry} (h : Going w wr bm es clock id v seen G) (hst : Stamped es clock) {e : MapEntry} (he : e ∈ (leftOf es seen).toList) (hne : ident e.key ≠ id)
    (hg : wr.grownBy w1 (some w.heap.size)) (hi : w1.heap[w.heap.size]? = some (.mapIter (some bm) clock (seen.push e.born) clock)) : Going w w1 bm es clock id v (seen.push e.born) G := by
  obtain ⟨hem, hes⟩ := mem_left he
  refine ⟨h.grown.andThen hg (fun j hj => by cases hj; exact Or.inl (Nat.le_refl _)), hi, h.row.kept hg (Or.inr (fun e1 => ?_)), h.nodup, fun x => ?_, h.nil⟩
  · have := (h.row.lt _ e1).1
    omega
  · rw [h.mem x, contains_push]
    constructor
    · rintro ⟨a, b, c⟩
      exact ⟨a, Bool.or_eq_true_iff.2 (Or.inl b), c⟩
    · rintro ⟨a, b, c⟩
      refine ⟨a, ?_, c⟩
      rcases Bool.or_eq_true_iff.1 b with b | b
      · exact b
      · have := born_inj hst.2.1 a hem (by simpa using b)
        subst this
        exact absurd c hne

/-- An entry came that is named so, and it was appended. -/
theorem Going.take {w wr w2 : World} {bm : Nat} {es : Array MapEntry} {clock : Nat} {id : ByteArray} {v v' : Value} {seen : Array Nat} {G : List MapEntry} (h : Going w wr bm es clock id v seen G) (hst : Stamped es clock) {e : MapEntry} (he : e ∈ (leftOf es seen).toList) (hid : ident e.key = id)
    (hi : w2.heap[w.heap.size]? = some (.mapIter (some bm) clock (seen.push e.born) clock)) (hg : w.grownBy w2 none)
    (hrow : w2.ownsRow (w.heap.size + 1) 37 1 v' (G.length + 1) (G.map (·.val) ++ [e.val])) : Going w w2 bm es clock id v' (seen.push e.born) (G ++ [e]) := by
  obtain ⟨hem, hes⟩ := mem_left he
  refine ⟨hg, hi, by simpa using hrow, ?_, fun x => ?_, fun h0 => by simp at h0⟩
  · refine List.nodup_append.2 ⟨h.nodup, by simp, fun x hx y hy => ?_⟩
    simp at hy
    subst hy
    rintro rfl
    rw [((h.mem x).1 hx).2.1] at hes
    cases hes
  · rw [List.mem_append, h.mem x, contains_push, List.mem_singleton]
    constructor
    · rintro (⟨a, b, c⟩ | rfl)
      · exact ⟨a, Bool.or_eq_true_iff.2 (Or.inl b), c⟩
      · exact ⟨hem, by simp, hid⟩
    · rintro ⟨a, b, c⟩
      rcases Bool.or_eq_true_iff.1 b with b | b
      · exact Or.inl ⟨a, b, c⟩
      · exact Or.inr (born_inj hst.2.1 a hem (by simpa using b))

theorem Going.got {w wr : World} {bm : Nat} {es : Array MapEntry} {clock : Nat} {id : ByteArray} {v : Value} {seen : Array Nat} {G : List MapEntry} (h : Going w wr bm es clock id v seen G) (h0 : (leftOf es seen).size = 0) : Got w wr es id v G :=
  ⟨h.grown, h.row, h.nodup, fun x => by
    rw [h.mem x]
    constructor
    · rintro ⟨a, _, c⟩
      exact ⟨a, c⟩
    · rintro ⟨a, c⟩
      exact ⟨a, all_seen es seen h0 x a, c⟩, h.nil⟩

theorem length_le_of_sub {α : Type} : ∀ {G L : List α}, G.Nodup → (∀ x ∈ G, x ∈ L) → G.length ≤ L.length
  | [], _, _, _ => by simp
  | x :: G, L, hn, hs => by
    obtain ⟨l1, l2, rfl⟩ := List.append_of_mem (hs x (by simp))
    obtain ⟨h1, h2⟩ := List.nodup_cons.1 hn
    have := length_le_of_sub (L := l1 ++ l2) h2 (fun y hy => by
      have := hs y (by simp [hy])
      simp only [List.mem_append, List.mem_cons] at this ⊢
      rcases this with h | rfl | h
      · exact Or.inl h
      · exact absurd hy h1
      · exact Or.inr h)
    simp at this ⊢
    omega

theorem cell_one' (w : World) (o : Obj) (a : Value) (t : TypeId) : ∀ j u, [a][j]? = some u → ((w.alloc o).alloc (.cells #[a] t)).cell? ((⟨w.heap.size + 1, 0, none⟩ : Addr).add j) = some u := by
  intro j u hj
  match j, hj with
  | 0, hj => simp at hj; subst hj; simp [Addr.add]

theorem str_ne {a b : ByteArray} (h : a ≠ b) : (a.toList == b.toList) = false := by
  rw [ByteArray.toList_eq, ByteArray.toList_eq]
  exact beq_false_of_ne (fun e => h (WideShapes.bytes_inj e))

theorem Going.size {w wr : World} {bm : Nat} {es : Array MapEntry} {clock : Nat} {id : ByteArray} {v : Value} {seen : Array Nat} {G : List MapEntry} (h : Going w wr bm es clock id v seen G) : w.heap.size < wr.heap.size := (Array.getElem?_eq_some_iff.1 h.iter).1

theorem Going.length {w wr : World} {bm : Nat} {es : Array MapEntry} {clock : Nat} {id : ByteArray} {v : Value} {seen : Array Nat} {G : List MapEntry} (h : Going w wr bm es clock id v seen G) {n : Nat} (hes : es.size ≤ n) : G.length ≤ n := by
  have := length_le_of_sub h.nodup (fun x hx => ((h.mem x).1 hx).1 : ∀ x ∈ G, x ∈ es.toList)
  simp at this
  omega

theorem Going.left {w wr : World} {bm : Nat} {es : Array MapEntry} {clock : Nat} {id : ByteArray} {v : Value} {seen : Array Nat} {G : List MapEntry} (h : Going w wr bm es clock id v seen G) (hb : w.heap[bm]? = some (.map es clock)) : wr.rangeLeft bm w.heap.size = (leftOf es seen).size := by
  have hbr : wr.heap[bm]? = some (.map es clock) := (h.grown.block bm (Array.getElem?_eq_some_iff.1 hb).1 (by simp)).trans hb
  simp only [World.rangeLeft, hbr, h.iter]

theorem Going.alloc {w wr : World} {bm : Nat} {es : Array MapEntry} {clock : Nat} {id : ByteArray} {v : Value} {seen : Array Nat} {G : List MapEntry} (h : Going w wr bm es clock id v seen G) (o : Obj) : Going w (wr.alloc o) bm es clock id v seen G :=
  ⟨h.grown.andThen (World.grownBy_alloc wr o none) (fun j hj => by cases hj), ((MapKept.heap_alloc wr o).2 _ h.size).trans h.iter, h.row.alloc o, h.nodup, h.mem, h.nil⟩

theorem named_any (bn bm : Nat) (id : ByteArray) (es : Array MapEntry) (clock : Nat) (w : World) (hc : w.cell? ⟨bn, 24, none⟩ = some (.map (some bm))) (hb : w.heap[bm]? = some (.map es clock)) (hst : Stamped es clock) (hk : ∀ x ∈ es.toList, KidKey x) (hes : es.size ≤ 65536) :
    Calls Try.prog 21 #[.pointer (some ⟨bn, 0, none⟩), .string id] w fun e w' => ∃ v G, e = .returned v ∧ Got w w' es id v G := by
  have hlt : bm < w.heap.size := (Array.getElem?_eq_some_iff.1 hb).1
  have hrange := run_range_map (P := Try.prog) w 33 42 37 bm es clock Try.underlying33 hb
  obtain ⟨i0, hi, hz0, hz1, hz2⟩ := Try.info37'
  go_enter Try.func21, Try.ntmps21
  go_wp2
  go_loopw [5] (fun v wr => ∃ seen G, Going w wr bm es clock id v seen G) (fun _ wr => wr.rangeLeft bm w.heap.size)
  case atStart => exact ⟨#[], [], going_start (World.grownBy_alloc w _ none) (MapKept.heap_alloc w _).1⟩
  case round =>
    obtain ⟨seen, G, hG⟩ := hrel
    have hbr : wr.heap[bm]? = some (.map es clock) := (hG.grown.block bm hlt (by simp)).trans hb
    go_wp2_with (first
      | (at_next; refine wpList_next_kids _ rfl _ rfl w.heap.size bm clock seen es rfl hG.iter hbr hst hk ?_ ?_)
      | go_in)
    · intro h0
      have hgot := hG.got (by rw [h0]; rfl)
      clear h0
      go_wp2
      go_ret
      exact ⟨_, G, rfl, hgot⟩
    · intro e x y be w1 he hkey hval hit1 hg1 hs1 hen
      have he : e ∈ (leftOf es seen).toList := by simpa using he
      have hs1' : wr.heap.size ≤ w1.heap.size := Nat.le_of_eq hs1.symm
      clear hs1
      by_cases hid : y = id
      · subst hid
        have hid : ident e.key = y := by rw [hkey]; rfl
        clear hkey
        have hrow1 : w1.ownsRow (w.heap.size + 1) 37 1 _ G.length (G.map (·.val)) := hG.row.kept hg1 (Or.inr (fun e1 => by have := (hG.row.lt _ e1).1; omega))
        have hlen : G.length ≤ 65536 := hG.length hes
        have hsz := hG.size
        go_wp2_with (first
          | (at_builtin; refine wpList_append_own _ rfl _ _ 43 rfl (w.heap.size + 1) 37 i0 (.pointer none) 1 8 Try.underlying43 hi hz0 hz1 hz2 rfl (by decide) _ _ _ rfl ((hrow1.alloc _).alloc _) _ 1 1 [.pointer (some ⟨be, 0, none⟩)] rfl rfl (cell_one' _ _ _ _) (fun x hx => by simp at hx; subst hx; rfl) (by unfold maxLen; omega) (by omega) (by simp; omega) ?_; intro v' w3 hown' hgrow3 hnil3)
          | go_in)
        have hown2 := fun o o' => (hrow1.alloc o).alloc o'
        have hg2 : w.grownBy w1 none := hG.grown.andThen hg1 (fun j hj => by cases hj; exact Or.inl (Nat.le_refl _))
        have hs3 : w.grownBy w3 none := ((hg2.andThen (World.grownBy_alloc _ _ none) (fun j hj => by cases hj)).andThen (World.grownBy_alloc _ _ none) (fun j hj => by cases hj)).andThen hgrow3 (fun j hj => Or.inl (by have := (hrow1.lt _ hj).1; omega))
        have hi3 : w3.heap[w.heap.size]? = some (.mapIter (some bm) clock (seen.push e.born) clock) := by
          rw [hgrow3.block _ (by simp; omega) (fun e1 => by have := (hrow1.lt _ e1.symm).1; omega), (MapKept.heap_alloc _ _).2 _ (by simp; omega), (MapKept.heap_alloc _ _).2 _ (by omega)]
          exact hit1
        have hG3 := hG.take hst he hid hi3 hs3 (by rw [hval]; exact hown')
        go_roundw
        case rel => exact ⟨_, _, hG3⟩
        case measure => rw [hG3.left hb, hG.left hb]; exact left_shrinks es seen e he
      · have hid' : ident e.key ≠ id := by rw [hkey]; exact hid
        have hG1 := hG.pass hst he hid' hg1 hit1
        have hq := str_ne hid
        clear hkey
        go_wp2
        go_roundw
        case rel => exact ⟨_, _, hG1.alloc _⟩
        case measure => rw [(hG1.alloc _).left hb, hG.left hb]; exact left_shrinks es seen e he

end Go.Proofs.Qxb6608866a
