import Derived.Test.Qxb6608830aDoorIn
namespace Go.Proofs.Qxb6608830aDoor
open Go.RowKit Go.Deep
set_option maxRecDepth 100000
set_option maxHeartbeats 1000000

theorem run_make_rows {P : Program} (t e : TypeId) (z : Value) (size bytes : Nat) (ht : P.underlying t = some (.slice e)) (hinfo : (P.info? e).map (fun i => (i.zero, i.size, i.bytes)) = some (some z, size, bytes))
    (kl kc : IntKind) (n : Nat) (hbytes : bytes * n ≤ 281474976710656) (h63 : n ≤ 9223372036854775807) (w : World) :
    (Instr.makeSlice t (.int kl (n : Int)) (.int kc (n : Int))).run P w = .ok (.slice (some ⟨w.heap.size, 0, none⟩) n n) (w.alloc (.cells (madeCells z.cells (n * size)) e)) := by
  obtain ⟨i, hi, hzz⟩ := Option.map_eq_some_iff.1 hinfo
  simp only [Prod.mk.injEq] at hzz
  obtain ⟨hz, hs, hb⟩ := hzz
  have hb' : (i.bytes : Int) * (n : Int) ≤ 281474976710656 := by
    have h : ((i.bytes * n : Nat) : Int) ≤ 281474976710656 := by rw [hb]; omega
    rwa [Int.natCast_mul] at h
  have hr := run_make (P := P) w t e i z ht hi hz kl kc n n (by omega) (Int.le_refl _) hb' (by omega)
  simp only [Int.toNat_natCast, hs] at hr
  exact hr

theorem rowIs_some (w : World) (c : Array Value) (t : TypeId) : ∃ f, (w.alloc (.cells c t)).rowIs w.heap.size t c.size f :=
  ⟨fun i => c[i]?.getD undef, World.rowIs_alloc w c t _ (fun i hi => by simp [hi])⟩

theorem Tryd.info51 : (Tryd.prog.info? 51).map (fun i => (i.zero, i.size, i.bytes)) = some (some (.agg #[.string ByteArray.empty, .int .i64 0, .int .i64 0]), 3, 32) := by kernel_rfl

theorem trip_step (f : Nat → Value) (k fr x : Nat) (ip : Nat → ByteArray) (port prio : Nat → Int) (hx : x = fr + k)
    (hf : ∀ j, j < k → f (j * 3) = .string (ip (fr + j)) ∧ f (j * 3 + 1) = .int .i64 (port (fr + j)) ∧ f (j * 3 + 2) = .int .i64 (prio (fr + j))) :
    let f' : Nat → Value := fun i => if i = k * 3 + 2 then .int .i64 (prio x) else if i = k * 3 + 1 then .int .i64 (port x) else if i = k * 3 then .string (ip x) else f i
    ∀ j, j < k + 1 → f' (j * 3) = .string (ip (fr + j)) ∧ f' (j * 3 + 1) = .int .i64 (port (fr + j)) ∧ f' (j * 3 + 2) = .int .i64 (prio (fr + j)) := by
  intro f' j hj
  by_cases e : j = k
  · subst e; subst hx
    refine ⟨?_, ?_, ?_⟩
    · show (if _ then _ else if _ then _ else if _ then _ else _) = _
      rw [if_neg (by omega), if_neg (by omega), if_pos rfl]
    · show (if _ then _ else if _ then _ else if _ then _ else _) = _
      rw [if_neg (by omega), if_pos rfl]
    · show (if _ then _ else if _ then _ else if _ then _ else _) = _
      rw [if_pos rfl]
  · obtain ⟨h1, h2, h3⟩ := hf j (by omega)
    refine ⟨?_, ?_, ?_⟩
    · show (if _ then _ else if _ then _ else if _ then _ else _) = _
      rw [if_neg (by omega), if_neg (by omega), if_neg (by omega), h1]
    · show (if _ then _ else if _ then _ else if _ then _ else _) = _
      rw [if_neg (by omega), if_neg (by omega), if_neg (by omega), h2]
    · show (if _ then _ else if _ then _ else if _ then _ else _) = _
      rw [if_neg (by omega), if_neg (by omega), if_neg (by omega), h3]

/-- toPriorities. -/
theorem toPrios_any (a : Option Addr) (b off n cap fr m : Nat) (ha : 0 < n → a = some ⟨b, off, none⟩) (ip : Nat → ByteArray) (port prio : Nat → Int) (w : World) (hT : Trip w b off n ip port prio) (hfm : fr + m ≤ n) (hn : n ≤ 65536) :
    Calls Tryd.prog 13 #[.slice a n cap, .int .i64 fr, .int .i64 ((fr + m : Nat) : Int)] w fun e w' =>
      e = .returned (.slice (some ⟨w.heap.size, 0, none⟩) m m) ∧ Trip w' w.heap.size 0 m (fun i => ip (fr + i)) (fun i => port (fr + i)) (fun i => prio (fr + i)) ∧ Below w.heap.size w w' := by
  have hmk := run_make_rows (P := Tryd.prog) 34 51 _ 3 32 Tryd.underlying34 Tryd.info51 .i64 .i64 m (by omega) (by omega)
  have hcast : (fr : Int) + (m : Int) - (fr : Int) = (m : Int) := by omega
  rw [show ((fr + m : Nat) : Int) = (fr : Int) + (m : Int) by omega]
  go_enter Tryd.func13, Tryd.ntmps13
  go_wp2
  go_loopw [8] (fun i wr => ∃ k x : Nat, k ≤ m ∧ x = fr + k ∧ i = .int .i64 (x : Int) ∧ Below w.heap.size w wr ∧ ∃ f, wr.rowIs w.heap.size 51 (m * 3) f ∧
      ∀ j, j < k → f (j * 3) = .string (ip (fr + j)) ∧ f (j * 3 + 1) = .int .i64 (port (fr + j)) ∧ f (j * 3 + 2) = .int .i64 (prio (fr + j))) (fun i _ => fr + m - (intOf i).toNat)
  case atStart =>
    obtain ⟨f, hf⟩ := rowIs_some w (madeCells (Value.agg #[.string ByteArray.empty, .int .i64 0, .int .i64 0]).cells (m * 3)) 51
    rw [size_madeCells] at hf
    exact ⟨0, fr, Nat.zero_le _, rfl, rfl, (Below.refl _ _).alloc (Nat.le_refl _) _, f, hf, fun j hj => absurd hj (Nat.not_lt_zero _)⟩
  case round =>
    obtain ⟨k, x, hk, hx, rfl, hb, f, hrow, hf⟩ := hrel
    by_cases hlt : k < m
    · have e := ha (by omega)
      subst e
      obtain ⟨h1, h2, h3⟩ := hT x (by omega)
      have hblt : b < w.heap.size := World.block_lt_of_cell? _ _ h1
      have g1 := (hb.cell (p := ⟨b, off + x * 3, none⟩) hblt).trans h1
      have g2 := (hb.cell (p := ⟨b, off + x * 3 + 1, none⟩) hblt).trans h2
      have g3 := (hb.cell (p := ⟨b, off + x * 3 + 2, none⟩) hblt).trans h3
      have hck : (x : Int) - (fr : Int) = (k : Int) := by omega
      have hw1 : IntKind.i64.wrap ((x : Int) - (fr : Int)) = (k : Int) := by rw [IntKind.wrap_i64]; omega
      have hw2 : wrap64 ((x : Int) - (fr : Int)) = (k : Int) := by unfold wrap64; omega
      have c1 := hrow.cell (i := k * 3) (by omega)
      have c2 := hrow.cell (i := k * 3 + 1) (by omega)
      have c3 := hrow.cell (i := k * 3 + 2) (by omega)
      have z1 := hrow.frozen (k * 3)
      have z2 := hrow.frozen (k * 3 + 1)
      have z3 := hrow.frozen (k * 3 + 2)
      have hne : b ≠ w.heap.size := by omega
      have t1 : (x : Int) < (fr : Int) + (m : Int) := by omega
      have t2 : (x : Int) < (n : Int) := by omega
      have t3 : (k : Int) < (m : Int) := by omega
      have HX : Hid (x = fr + k) := hx
      clear hT h1 h2 h3 ha hx
      go_wp2
      go_region
      go_wp2
      go_roundw
      case rel => exact ⟨k + 1, x + 1, by omega, by rw [HX.out]; omega, by go_num, (((hb.setCell (Nat.le_refl _) _).setCell (Nat.le_refl _) _).setCell (Nat.le_refl _) _).drew, _, (((hrow.set _ _).set _ _).set _ _).drew, trip_step f k fr x ip port prio HX.out hf⟩
      case measure => simp [intOf]; omega
    · have e : k = m := by omega
      subst e
      have t1 : ¬ (x : Int) < (fr : Int) + (k : Int) := by omega
      go_wp2
      go_ret
      refine ⟨rfl, fun j hj => ?_, hb⟩
      obtain ⟨h1, h2, h3⟩ := hf j hj
      have c1 := hrow.cell (i := j * 3) (by omega)
      have c2 := hrow.cell (i := j * 3 + 1) (by omega)
      have c3 := hrow.cell (i := j * 3 + 2) (by omega)
      rw [h1] at c1
      rw [h2] at c2
      rw [h3] at c3
      simp only [Nat.zero_add]
      exact ⟨c1, c2, c3⟩
end Go.Proofs.Qxb6608830aDoor
