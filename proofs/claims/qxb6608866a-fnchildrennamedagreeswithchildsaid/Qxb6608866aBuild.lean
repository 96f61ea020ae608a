import Derived.Test.Qxb6608866aKids
namespace Go.Proofs.Qxb6608866a
open Go.RowKit Go.Deep Go.MapKept
open Go.Maps (Keyed)
set_option maxRecDepth 100000
set_option maxHeartbeats 1000000

theorem run_make_rows {P : Program} (t e : TypeId) (z : Value) (size bytes : Nat) (ht : P.underlying t = some (.slice e)) (hinfo : (P.info? e).map (fun i => (i.zero, i.size, i.bytes)) = some (some z, size, bytes))
    (kl kc : IntKind) (n : Nat) (hbytes : bytes * n ≤ 281474976710656) (h63 : n ≤ 9223372036854775807) (w : World) :
    (Instr.makeSlice t (.int kl (n : Int)) (.int kc (n : Int))).run P w = .ok (.slice (some ⟨w.heap.size, 0, none⟩) n n) (w.alloc (.cells (madeCells z.cells (n * size)) e)) := by
  obtain ⟨i, hi, hzz⟩ := Option.map_eq_some_iff.1 hinfo
  simp only [Prod.mk.injEq] at hzz
  obtain ⟨hz, hs, hb⟩ := hzz
  have hb' : (i.bytes : Int) * (n : Int) ≤ 281474976710656 := by
    have h : ((i.bytes * n : Nat) : Int) ≤ 281474976710656 := by rw [hb]; omega
    rwa [Int.natCast_mul] at h
  have hr := run_make (P := P) w t e i z ht hi hz kl kc n n (by omega) (Int.le_refl _) hb' (by omega)
  simp only [Int.toNat_natCast, hs] at hr
  exact hr

theorem rowIs_some (w : World) (c : Array Value) (t : TypeId) : ∃ f, (w.alloc (.cells c t)).rowIs w.heap.size t c.size f :=
  ⟨fun i => c[i]?.getD undef, World.rowIs_alloc w c t _ (fun i hi => by simp [hi])⟩

theorem Try.info42 : (Try.prog.info? 42).map (fun i => (i.zero, i.size, i.bytes)) = some (some (.agg #[.string ByteArray.empty, .string ByteArray.empty]), 2, 32) := by kernel_rfl

theorem grownBy_setCell (w : World) (p : Addr) (v : Value) : w.grownBy (w.setCell p v) (some p.block) :=
  let h := (Below.refl p.block w).setCell (p := p) (Nat.le_refl _) v
  ⟨h.os, h.tape, h.output, by simp, fun k _ hk => Below.heap_setCell _ _ _ _ (fun e => hk (by rw [e]))⟩

theorem pair_step (f : Nat → Value) (j : Nat) (s t : Nat → ByteArray) (hf : ∀ i, i < j → f (i * 2) = .string (s i) ∧ f (i * 2 + 1) = .string (t i)) :
    let f' : Nat → Value := fun i => if i = j * 2 + 1 then .string (t j) else if i = j * 2 then .string (s j) else f i
    ∀ i, i < j + 1 → f' (i * 2) = .string (s i) ∧ f' (i * 2 + 1) = .string (t i) := by
  intro f' i hi
  by_cases e : i = j
  · subst e
    refine ⟨?_, ?_⟩
    · show (if _ then _ else if _ then _ else _) = _
      rw [if_neg (by omega), if_pos rfl]
    · show (if _ then _ else if _ then _ else _) = _
      rw [if_pos rfl]
  · obtain ⟨h1, h2⟩ := hf i (by omega)
    refine ⟨?_, ?_⟩
    · show (if _ then _ else if _ then _ else _) = _
      rw [if_neg (by omega), if_neg (by omega), h1]
    · show (if _ then _ else if _ then _ else _) = _
      rw [if_neg (by omega), if_neg (by omega), h2]

/-- zzChildrenMap under way, j children made. -/
structure Built (w wr : World) (m j : Nat) (s t : Nat → ByteArray) (es : Array MapEntry) (clock : Nat) (f : Nat → Value) : Prop where
  grown : w.grownBy wr none
  row : wr.rowIs (w.heap.size + 1) 42 (m * 2) f
  names : ∀ i, i < j → f (i * 2) = .string (s i) ∧ f (i * 2 + 1) = .string (t i)
  map : MapAt Try.prog 42 wr w.heap.size es clock
  size : es.size ≤ j
  kid : ∀ x ∈ es.toList, ∃ i be, i < j ∧ x.key = nm (s i, t i) ∧ x.val = .pointer (some ⟨be, 0, none⟩) ∧ wr.heap[be]? = some (kidObj (s i, t i))
  all : ∀ i, i < j → ∃ x ∈ es.toList, x.key = nm (s i, t i)

/-- 'm[k] = v' at the operation. -/
theorem wpList_update {P : Program} (w : World) {ops : Array Oper} {rest : List Oper} {o : Oper} {a : Act} {Q : Exit → Act → World → Prop}
    (hg : o.guard = none) (m x v : Operand) (t : TypeId) (hop : o.op = Op.mapUpdate t m x v) (k e : TypeId) (K : Keyed P k) (ht : P.underlying t = some (.map k e)) (b : Nat) (es : Array MapEntry) (clock : Nat)
    (hm : a.eval m = .map (some b)) (H : MapAt P k w b es clock) (key val : Value) (hx : a.eval x = key) (hv : a.eval v = val) (hkey : ∃ kl, keyOf P k key = some kl)
    (hK : ∀ es' clock' w', MapAt P k w' b es' clock' → w.grownBy w' (some b) → es'.size ≤ es.size + 1 →
      (∀ y ∈ es'.toList, (y ∈ es.toList ∧ y.key ≠ key) ∨ (y.key = key ∧ y.val = val)) → (∀ y ∈ es.toList, y.key ≠ key → y ∈ es'.toList) → (∃ y ∈ es'.toList, y.key = key ∧ y.val = val) → wpList P ops Q rest (a.put o.dst undef) w') :
    wpList P ops Q (o :: rest) a w := by
  refine wpList_plain hg fun K' hK' => ?_
  obtain ⟨kl, hkey⟩ := hkey
  obtain ⟨es', clock', w', hrun, h1, h2, h3, h4, h5, h6, h7⟩ := H.store (val := val) K ht hkey
  unfold Oper.wp
  simp [execOp, hop, hm, hx, hv, hrun, Result.andThen]
  exact hK' _ _ (hK es' clock' w' h1 h2 h4 h5 h6 h7)

theorem built_step {w wr W w2 : World} {m j : Nat} {s t : Nat → ByteArray} {es es' : Array MapEntry} {clock clock' : Nat} {f f' : Nat → Value} (h : Built w wr m j s t es clock f) {be : Nat}
    (hgW : wr.grownBy W (some (w.heap.size + 1))) (hkW : W.heap[be]? = some (kidObj (s j, t j))) (hrW : W.rowIs (w.heap.size + 1) 42 (m * 2) f') (hf' : ∀ i, i < j + 1 → f' (i * 2) = .string (s i) ∧ f' (i * 2 + 1) = .string (t i))
    (hM : MapAt Try.prog 42 w2 w.heap.size es' clock') (hg2 : W.grownBy w2 (some w.heap.size)) (hes : es'.size ≤ es.size + 1)
    (who : ∀ y ∈ es'.toList, (y ∈ es.toList ∧ y.key ≠ nm (s j, t j)) ∨ (y.key = nm (s j, t j) ∧ y.val = .pointer (some ⟨be, 0, none⟩))) (old : ∀ y ∈ es.toList, y.key ≠ nm (s j, t j) → y ∈ es'.toList) (new : ∃ y ∈ es'.toList, y.key = nm (s j, t j) ∧ y.val = .pointer (some ⟨be, 0, none⟩)) :
    Built w w2 m (j + 1) s t es' clock' f' := by
  have hmb := h.map.blk
  have hWm : W.heap[w.heap.size]? = some (.map es clock) := (hgW.block _ h.map.lt (by simp)).trans hmb
  have cellsKept : ∀ (b : Nat) (o : Obj), W.heap[b]? = some o → (∀ es clock, o ≠ .map es clock) → w2.heap[b]? = some o := fun b o hb ho => by
    have hne : b ≠ w.heap.size := fun e => by rw [e, hWm] at hb; cases hb; exact ho _ _ rfl
    exact (hg2.block b (Array.getElem?_eq_some_iff.1 hb).1 (fun e => hne (Option.some.inj e))).trans hb
  have old' : ∀ (b : Nat) (a : ByteArray × ByteArray), wr.heap[b]? = some (kidObj a) → w2.heap[b]? = some (kidObj a) := fun b a hb => by
    have hne : b ≠ w.heap.size + 1 := fun e => by
      obtain ⟨c, hc, _⟩ := h.row
      rw [e, hc] at hb
      simp [kidObj] at hb
    refine cellsKept b _ ((hgW.block b (Array.getElem?_eq_some_iff.1 hb).1 (fun e => hne (Option.some.inj e))).trans hb) (fun _ _ e => by cases e)
  refine ⟨(h.grown.andThen hgW (fun i hi => by cases hi; exact Or.inl (Nat.le_succ _))).andThen hg2 (fun i hi => by cases hi; exact Or.inl (Nat.le_refl _)), ?_, hf', hM, by have := h.size; omega, fun x hx => ?_, fun i hi => ?_⟩
  · obtain ⟨c, hc, hcs⟩ := hrW
    exact ⟨c, cellsKept _ _ hc (fun _ _ e => by cases e), hcs⟩
  · rcases who x hx with ⟨hx', _⟩ | ⟨h1, h2⟩
    · obtain ⟨i, b, hi, a1, a2, a3⟩ := h.kid x hx'
      exact ⟨i, b, by omega, a1, a2, old' b _ a3⟩
    · exact ⟨j, be, by omega, h1, h2, cellsKept be _ hkW (fun _ _ e => by cases e)⟩
  · by_cases e : nm (s i, t i) = nm (s j, t j)
    · obtain ⟨y, hy, h1, _⟩ := new
      exact ⟨y, hy, h1.trans e.symm⟩
    · by_cases hij : i = j
      · subst hij; exact absurd rfl e
      · obtain ⟨x, hx, hk⟩ := h.all i (by omega)
        exact ⟨x, old x hx (by rw [hk]; exact e), hk⟩

/-! WALK -/
/-- The world ahead of a round's store into the map. -/
theorem W_grown (wr : World) (b i1 i2 : Nat) (v1 v2 : Value) (o1 o2 : Obj) : wr.grownBy ((((wr.setCell ⟨b, i1, none⟩ v1).setCell ⟨b, i2, none⟩ v2).alloc o1).alloc o2).drew (some b) := by
  have h1 := grownBy_setCell wr ⟨b, i1, none⟩ v1
  have h2 := h1.andThen (grownBy_setCell _ ⟨b, i2, none⟩ v2) (fun j hj => Or.inr hj)
  have h3 := (h2.andThen (World.grownBy_alloc _ o1 none) (fun j hj => by cases hj)).andThen (World.grownBy_alloc _ o2 none) (fun j hj => by cases hj)
  exact ⟨h3.os, h3.tape, h3.output, h3.size, h3.block⟩

theorem W_new (wr : World) (b i1 i2 : Nat) (v1 v2 : Value) (o1 o2 : Obj) : ((((wr.setCell ⟨b, i1, none⟩ v1).setCell ⟨b, i2, none⟩ v2).alloc o1).alloc o2).drew.heap[wr.heap.size + 1]? = some o2 := by
  have := (MapKept.heap_alloc (((wr.setCell ⟨b, i1, none⟩ v1).setCell ⟨b, i2, none⟩ v2).alloc o1) o2).1
  have e : (((wr.setCell ⟨b, i1, none⟩ v1).setCell ⟨b, i2, none⟩ v2).alloc o1).heap.size = wr.heap.size + 1 := by simp
  rw [e] at this
  exact this

theorem W_row {wr : World} {b n : Nat} {f : Nat → Value} (h : wr.rowIs b 42 n f) (i1 i2 : Nat) (v1 v2 : Value) (o1 o2 : Obj) :
    ((((wr.setCell ⟨b, i1, none⟩ v1).setCell ⟨b, i2, none⟩ v2).alloc o1).alloc o2).drew.rowIs b 42 n (fun i => if i = i2 then v2 else if i = i1 then v1 else f i) :=
  ((((h.set i1 v1).set i2 v2).alloc o1).alloc o2).drew

/-- 'make(map[K]V, n)'. -/
theorem run_makeMap_hint {P : Program} (t k e : TypeId) (ht : P.underlying t = some (.map k e)) (kd : IntKind) (n : Int) (w : World) : (Instr.makeMap t (some (.int kd n))).run P w = .ok (.map (some w.heap.size)) (w.alloc (.map #[] 0)) := by
  simp [Instr.makeMap, run_underlying ht, asInt, Result.andThen]
  rfl

theorem built_start (w : World) (m : Nat) (s t : Nat → ByteArray) : ∃ es clock f, Built w ((w.alloc (.map #[] 0)).alloc (.cells (madeCells (Value.agg #[.string ByteArray.empty, .string ByteArray.empty]).cells (m * 2)) 42)) m 0 s t es clock f := by
  obtain ⟨f, hf⟩ := rowIs_some (w.alloc (.map #[] 0)) (madeCells (Value.agg #[.string ByteArray.empty, .string ByteArray.empty]).cells (m * 2)) 42
  rw [size_madeCells] at hf
  exact ⟨#[], 0, f, (World.grownBy_alloc w _ none).andThen (World.grownBy_alloc _ _ none) (fun j hj => by cases hj), by simpa using hf, fun i hi => absurd hi (Nat.not_lt_zero _), (MapAt.made _ _ w).kept (World.grownBy_alloc _ _ none) (by simp), by simp, by simp, fun i hi => absurd hi (Nat.not_lt_zero _)⟩

theorem Built.heap {w wr : World} {m j : Nat} {s t : Nat → ByteArray} {es : Array MapEntry} {clock : Nat} {f : Nat → Value} (h : Built w wr m j s t es clock f) : w.heap.size + 1 < wr.heap.size := by
  obtain ⟨c, hc, _⟩ := h.row
  exact (Array.getElem?_eq_some_iff.1 hc).1

theorem build_lt (a0 : Option Addr) (b0 off0 n0 cap0 : Nat) (ha0 : 0 < n0 → a0 = some ⟨b0, off0, none⟩) (s : Nat → ByteArray) (a1 : Option Addr) (b1 off1 n1 cap1 : Nat) (ha1 : 0 < n1 → a1 = some ⟨b1, off1, none⟩) (t : Nat → ByteArray) (w : World)
    (hS : Strs w b0 off0 n0 s) (hT : Strs w b1 off1 n1 t) (hn0 : n0 ≤ 65536) (hn1 : n1 ≤ 65536) (hs : ∀ i, (s i).size ≤ maxLen) (ht : ∀ i, (t i).size ≤ maxLen) (hlt : n1 < n0) :
    Calls Try.prog 19 #[.slice a0 n0 cap0, .slice a1 n1 cap1] w fun e w' => ∃ es clock f, e = .returned (.tuple #[.map (some w.heap.size), .slice (some ⟨w.heap.size + 1, 0, none⟩) n1 n1]) ∧ Built w w' n1 n1 s t es clock f := by
  have hmm := fun n w => run_makeMap_hint (P := Try.prog) 33 42 37 Try.underlying33 .i64 n w
  have hmk := run_make_rows (P := Try.prog) 34 42 _ 2 32 Try.underlying34 Try.info42 .i64 .i64 n1 (by omega) (by omega)
  have hlt' : (n1 : Int) < (n0 : Int) := by omega
  go_enter Try.func19, Try.ntmps19
  go_wp2
  go_loopw [9] (fun i wr => ∃ j : Nat, j ≤ n1 ∧ i = .int .i64 (j : Int) ∧ ∃ es clock f, Built w wr n1 j s t es clock f) (fun i _ => n1 - (intOf i).toNat)
  case atStart => exact ⟨0, Nat.zero_le _, rfl, built_start w n1 s t⟩
  case round =>
    obtain ⟨j, hj, rfl, es, clock, f, hB⟩ := hrel
    by_cases hjm : j < n1
    · have e0 := ha0 (by omega)
      have e1 := ha1 (by omega)
      subst e0
      subst e1
      have h1 := hS j (by omega)
      have h2 := hT j (by omega)
      have hl0 : b0 < w.heap.size := World.block_lt_of_cell? _ _ h1
      have hl1 : b1 < w.heap.size := World.block_lt_of_cell? _ _ h2
      have g1 := (World.cell?_of_block (a := ⟨b0, off0 + j, none⟩) (hB.grown.block b0 hl0 (by simp))).trans h1
      have g2 := (World.cell?_of_block (a := ⟨b1, off1 + j, none⟩) (hB.grown.block b1 hl1 (by simp))).trans h2
      have hsz := hB.heap
      have c1 := hB.row.cell (i := j * 2) (by omega)
      have c2 := hB.row.cell (i := j * 2 + 1) (by omega)
      have z1 := hB.row.frozen (j * 2)
      have z2 := hB.row.frozen (j * 2 + 1)
      have hne0 : b0 ≠ wr.heap.size := by omega
      have hne1 : b1 ≠ wr.heap.size := by omega
      have hne2 : w.heap.size + 1 ≠ wr.heap.size := by omega
      have t0 : (j : Int) < (n0 : Int) := by omega
      have t1 : (j : Int) < (n1 : Int) := by omega
      have k1 : ∀ o, (wr.alloc o).cell? ⟨b0, off0 + j, none⟩ = some (.string (s j)) := fun o => by rw [World.cell?_alloc_old _ _ _ (by show b0 ≠ wr.heap.size; omega)]; exact g1
      have k2 : ∀ o, (wr.alloc o).cell? ⟨b1, off1 + j, none⟩ = some (.string (t j)) := fun o => by rw [World.cell?_alloc_old _ _ _ (by show b1 ≠ wr.heap.size; omega)]; exact g2
      clear h1 h2 hS hT ha0 ha1
      go_wp2
      go_region
      go_wp2_with (first
        | (at_mapUpdate; refine wpList_update _ rfl _ _ _ 33 rfl 42 37 nm_keyed Try.underlying33 w.heap.size es clock rfl (hB.map.kept (W_grown wr (w.heap.size + 1) _ _ _ _ _ _) (by simp)) _ _ rfl rfl (nm_key (s j, t j) (hs j) (ht j)) ?_; intro es' clock' w2 hM2 hg2 hes2 who old new)
        | go_in)
      have hB2 := built_step hB (be := wr.heap.size + 1) (W_grown wr (w.heap.size + 1) _ _ _ _ _ _) (W_new wr _ _ _ _ _ _ _) (W_row hB.row _ _ _ _ _ _) (pair_step f j s t hB.names) hM2 hg2 hes2 who old new
      go_roundw
      case rel => exact ⟨j + 1, by omega, by go_num, _, _, _, hB2⟩
      case measure => simp [intOf]; omega
    · go_wp2
      go_ret2
      have e : j = n1 := by omega
      subst e
      exact ⟨es, clock, f, rfl, hB⟩

theorem build_ge (a0 : Option Addr) (b0 off0 n0 cap0 : Nat) (ha0 : 0 < n0 → a0 = some ⟨b0, off0, none⟩) (s : Nat → ByteArray) (a1 : Option Addr) (b1 off1 n1 cap1 : Nat) (ha1 : 0 < n1 → a1 = some ⟨b1, off1, none⟩) (t : Nat → ByteArray) (w : World)
    (hS : Strs w b0 off0 n0 s) (hT : Strs w b1 off1 n1 t) (hn0 : n0 ≤ 65536) (hn1 : n1 ≤ 65536) (hs : ∀ i, (s i).size ≤ maxLen) (ht : ∀ i, (t i).size ≤ maxLen) (hlt : n0 ≤ n1) :
    Calls Try.prog 19 #[.slice a0 n0 cap0, .slice a1 n1 cap1] w fun e w' => ∃ es clock f, e = .returned (.tuple #[.map (some w.heap.size), .slice (some ⟨w.heap.size + 1, 0, none⟩) n0 n0]) ∧ Built w w' n0 n0 s t es clock f := by
  have hmm := fun n w => run_makeMap_hint (P := Try.prog) 33 42 37 Try.underlying33 .i64 n w
  have hmk := run_make_rows (P := Try.prog) 34 42 _ 2 32 Try.underlying34 Try.info42 .i64 .i64 n0 (by omega) (by omega)
  have hlt' : ¬ (n1 : Int) < (n0 : Int) := by omega
  go_enter Try.func19, Try.ntmps19
  go_wp2
  go_loopw [9] (fun i wr => ∃ j : Nat, j ≤ n0 ∧ i = .int .i64 (j : Int) ∧ ∃ es clock f, Built w wr n0 j s t es clock f) (fun i _ => n0 - (intOf i).toNat)
  case atStart => exact ⟨0, Nat.zero_le _, rfl, built_start w n0 s t⟩
  case round =>
    obtain ⟨j, hj, rfl, es, clock, f, hB⟩ := hrel
    by_cases hjm : j < n0
    · have e0 := ha0 (by omega)
      have e1 := ha1 (by omega)
      subst e0
      subst e1
      have h1 := hS j (by omega)
      have h2 := hT j (by omega)
      have hl0 : b0 < w.heap.size := World.block_lt_of_cell? _ _ h1
      have hl1 : b1 < w.heap.size := World.block_lt_of_cell? _ _ h2
      have g1 := (World.cell?_of_block (a := ⟨b0, off0 + j, none⟩) (hB.grown.block b0 hl0 (by simp))).trans h1
      have g2 := (World.cell?_of_block (a := ⟨b1, off1 + j, none⟩) (hB.grown.block b1 hl1 (by simp))).trans h2
      have hsz := hB.heap
      have c1 := hB.row.cell (i := j * 2) (by omega)
      have c2 := hB.row.cell (i := j * 2 + 1) (by omega)
      have z1 := hB.row.frozen (j * 2)
      have z2 := hB.row.frozen (j * 2 + 1)
      have hne0 : b0 ≠ wr.heap.size := by omega
      have hne1 : b1 ≠ wr.heap.size := by omega
      have hne2 : w.heap.size + 1 ≠ wr.heap.size := by omega
      have t0 : (j : Int) < (n0 : Int) := by omega
      have t1 : (j : Int) < (n1 : Int) := by omega
      have k1 : ∀ o, (wr.alloc o).cell? ⟨b0, off0 + j, none⟩ = some (.string (s j)) := fun o => by rw [World.cell?_alloc_old _ _ _ (by show b0 ≠ wr.heap.size; omega)]; exact g1
      have k2 : ∀ o, (wr.alloc o).cell? ⟨b1, off1 + j, none⟩ = some (.string (t j)) := fun o => by rw [World.cell?_alloc_old _ _ _ (by show b1 ≠ wr.heap.size; omega)]; exact g2
      clear h1 h2 hS hT ha0 ha1
      go_wp2
      go_region
      go_wp2_with (first
        | (at_mapUpdate; refine wpList_update _ rfl _ _ _ 33 rfl 42 37 nm_keyed Try.underlying33 w.heap.size es clock rfl (hB.map.kept (W_grown wr (w.heap.size + 1) _ _ _ _ _ _) (by simp)) _ _ rfl rfl (nm_key (s j, t j) (hs j) (ht j)) ?_; intro es' clock' w2 hM2 hg2 hes2 who old new)
        | go_in)
      have hB2 := built_step hB (be := wr.heap.size + 1) (W_grown wr (w.heap.size + 1) _ _ _ _ _ _) (W_new wr _ _ _ _ _ _ _) (W_row hB.row _ _ _ _ _ _) (pair_step f j s t hB.names) hM2 hg2 hes2 who old new
      go_roundw
      case rel => exact ⟨j + 1, by omega, by go_num, _, _, _, hB2⟩
      case measure => simp [intOf]; omega
    · go_wp2
      go_ret2
      have e : j = n0 := by omega
      subst e
      exact ⟨es, clock, f, rfl, hB⟩

theorem build_any (a0 : Option Addr) (b0 off0 n0 cap0 : Nat) (ha0 : 0 < n0 → a0 = some ⟨b0, off0, none⟩) (s : Nat → ByteArray) (a1 : Option Addr) (b1 off1 n1 cap1 : Nat) (ha1 : 0 < n1 → a1 = some ⟨b1, off1, none⟩) (t : Nat → ByteArray) (w : World)
    (hS : Strs w b0 off0 n0 s) (hT : Strs w b1 off1 n1 t) (hn0 : n0 ≤ 65536) (hn1 : n1 ≤ 65536) (hs : ∀ i, (s i).size ≤ maxLen) (ht : ∀ i, (t i).size ≤ maxLen) :
    Calls Try.prog 19 #[.slice a0 n0 cap0, .slice a1 n1 cap1] w fun e w' => ∃ m es clock f, m ≤ 65536 ∧ (m ≤ n0 ∧ m ≤ n1) ∧ e = .returned (.tuple #[.map (some w.heap.size), .slice (some ⟨w.heap.size + 1, 0, none⟩) m m]) ∧ Built w w' m m s t es clock f := by
  by_cases h : n1 < n0
  · exact (build_lt a0 b0 off0 n0 cap0 ha0 s a1 b1 off1 n1 cap1 ha1 t w hS hT hn0 hn1 hs ht h).mono fun e w' ⟨es, clock, f, he, hB⟩ => ⟨n1, es, clock, f, hn1, ⟨by omega, Nat.le_refl _⟩, he, hB⟩
  · exact (build_ge a0 b0 off0 n0 cap0 ha0 s a1 b1 off1 n1 cap1 ha1 t w hS hT hn0 hn1 hs ht (by omega)).mono fun e w' ⟨es, clock, f, he, hB⟩ => ⟨n0, es, clock, f, hn0, ⟨Nat.le_refl _, by omega⟩, he, hB⟩

end Go.Proofs.Qxb6608866a
