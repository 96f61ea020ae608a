import Derived.Test.Qxb6608830aDoorSame
namespace Go.Proofs.Qxb6608830aDoor
open Go.RowKit Go.Deep
set_option maxRecDepth 100000
set_option maxHeartbeats 1000000

/-- zzBytes_FnPrioritiesExtendDemoted: a bool; the world as it was. -/
theorem bytes14_any (s : ByteArray) (a : Option Addr) (b off n cap : Nat) (ha : 0 < n → a = some ⟨b, off, none⟩) (ip : Nat → ByteArray) (port prio : Nat → Int) (w : World) (hs : s.size ≤ maxLen) (hn : n ≤ maxLen) (hT : Trip w b off n ip port prio) (hip : ∀ i, (ip i).size ≤ maxLen) :
    Calls Tryd.prog 14 #[.string s, .slice a n cap] w fun e w' => IsB e ∧ w = w' := by
  unfold maxLen at hs hn hip
  go_enter Tryd.func14, Tryd.ntmps14
  go_wp2
  case _ => go_ret; exact ⟨isB _, rfl⟩
  case _ => go_ret; exact ⟨isB _, rfl⟩
  case _ => go_ret; exact ⟨isB _, rfl⟩
  go_loop [5, 6] (fun t i => ∃ k : Nat, ∃ z : Int, k ≤ n ∧ i = .int .i64 k ∧ t = .int .i64 z ∧ 0 ≤ z ∧ z ≤ 1048576) (fun _ i => n - (intOf i).toNat)
  case atStart => exact ⟨0, _, Nat.zero_le _, rfl, rfl, by omega, by omega⟩
  case round =>
    obtain ⟨k, z, hk, rfl, rfl, hz0, hz1⟩ := hrel
    by_cases hlt : k < n
    · have e := ha (by omega)
      subst e
      obtain ⟨h1, h2, h3⟩ := hT k hlt
      have hsz := hip k
      clear hip hT ha
      go_wp2
      case _ => go_ret; exact ⟨isB _, rfl⟩
      case _ => go_ret; exact ⟨isB _, rfl⟩
      go_round
      case rel => exact ⟨k + 1, _, by omega, by go_num, rfl, by omega, by omega⟩
      case measure => simp [intOf]; omega
    · go_wp2
      go_ret
      exact ⟨isB _, rfl⟩

/-- A row of n elements of two cells (a string, a number). -/
def Pair (w : World) (b off n : Nat) (ip : Nat → ByteArray) (port : Nat → Int) : Prop :=
  ∀ i, i < n → w.cell? ⟨b, off + i * 2, none⟩ = some (.string (ip i)) ∧ w.cell? ⟨b, off + i * 2 + 1, none⟩ = some (.int .i64 (port i))

theorem Pair.kept {w w' : World} {b off n : Nat} {ip : Nat → ByteArray} {port : Nat → Int} (h : Pair w b off n ip port) (hb : Below w.heap.size w w') : Pair w' b off n ip port := fun i hi => by
  obtain ⟨h1, h2⟩ := h i hi
  exact ⟨(hb.cell (World.block_lt_of_cell? _ _ h1)).trans h1, (hb.cell (World.block_lt_of_cell? _ _ h2)).trans h2⟩

theorem pair_step (f : Nat → Value) (k : Nat) (ip : Nat → ByteArray) (port : Nat → Int)
    (hf : ∀ j, j < k → f (j * 2) = .string (ip j) ∧ f (j * 2 + 1) = .int .i64 (port j)) :
    let f' : Nat → Value := fun i => if i = k * 2 + 1 then .int .i64 (port k) else if i = k * 2 then .string (ip k) else f i
    ∀ j, j < k + 1 → f' (j * 2) = .string (ip j) ∧ f' (j * 2 + 1) = .int .i64 (port j) := by
  intro f' j hj
  by_cases e : j = k
  · subst e
    refine ⟨?_, ?_⟩
    · show (if _ then _ else if _ then _ else _) = _
      rw [if_neg (by omega), if_pos rfl]
    · show (if _ then _ else if _ then _ else _) = _
      rw [if_pos rfl]
  · obtain ⟨h1, h2⟩ := hf j (by omega)
    refine ⟨?_, ?_⟩
    · show (if _ then _ else if _ then _ else _) = _
      rw [if_neg (by omega), if_neg (by omega), h1]
    · show (if _ then _ else if _ then _ else _) = _
      rw [if_neg (by omega), if_neg (by omega), h2]

theorem Tryd.info49 : (Tryd.prog.info? 49).map (fun i => (i.zero, i.size, i.bytes)) = some (some (.agg #[.string ByteArray.empty, .int .i64 0]), 2, 24) := by kernel_rfl

/-- prioAddrs. -/
theorem prioAddrs_any (a : Option Addr) (b off n cap : Nat) (ha : 0 < n → a = some ⟨b, off, none⟩) (ip : Nat → ByteArray) (port prio : Nat → Int) (w : World) (hT : Trip w b off n ip port prio) (hn : n ≤ 65536) :
    Calls Tryd.prog 15 #[.slice a n cap] w fun e w' =>
      e = .returned (.slice (some ⟨w.heap.size, 0, none⟩) n n) ∧ Pair w' w.heap.size 0 n ip port ∧ Below w.heap.size w w' := by
  have hmk := run_make_rows (P := Tryd.prog) 29 49 _ 2 24 Tryd.underlying29 Tryd.info49 .i64 .i64 n (by omega) (by omega)
  go_enter Tryd.func15, Tryd.ntmps15
  go_wp2
  go_loopw [4] (fun i wr => ∃ k : Nat, k ≤ n ∧ i = .int .i64 (k : Int) ∧ Below w.heap.size w wr ∧ ∃ f, wr.rowIs w.heap.size 49 (n * 2) f ∧
      ∀ j, j < k → f (j * 2) = .string (ip j) ∧ f (j * 2 + 1) = .int .i64 (port j)) (fun i _ => n - (intOf i).toNat)
  case atStart =>
    obtain ⟨f, hf⟩ := rowIs_some w (madeCells (Value.agg #[.string ByteArray.empty, .int .i64 0]).cells (n * 2)) 49
    rw [size_madeCells] at hf
    exact ⟨0, Nat.zero_le _, rfl, (Below.refl _ _).alloc (Nat.le_refl _) _, f, hf, fun j hj => absurd hj (Nat.not_lt_zero _)⟩
  case round =>
    obtain ⟨k, hk, rfl, hb, f, hrow, hf⟩ := hrel
    by_cases hlt : k < n
    · have e := ha (by omega)
      subst e
      obtain ⟨h1, h2, h3⟩ := hT k hlt
      have hblt : b < w.heap.size := World.block_lt_of_cell? _ _ h1
      have g1 := (hb.cell (p := ⟨b, off + k * 3, none⟩) hblt).trans h1
      have g2 := (hb.cell (p := ⟨b, off + k * 3 + 1, none⟩) hblt).trans h2
      have c1 := hrow.cell (i := k * 2) (by omega)
      have c2 := hrow.cell (i := k * 2 + 1) (by omega)
      have z1 := hrow.frozen (k * 2)
      have z2 := hrow.frozen (k * 2 + 1)
      have hne : b ≠ w.heap.size := by omega
      have t2 : (k : Int) < (n : Int) := by omega
      clear hT h1 h2 h3 ha
      go_wp2
      go_region
      go_wp2
      go_roundw
      case rel => exact ⟨k + 1, by omega, by go_num, ((hb.setCell (Nat.le_refl _) _).setCell (Nat.le_refl _) _).drew, _, ((hrow.set _ _).set _ _).drew, pair_step f k ip port hf⟩
      case measure => simp [intOf]; omega
    · have e : k = n := by omega
      subst e
      go_wp2
      go_ret
      refine ⟨rfl, fun j hj => ?_, hb⟩
      obtain ⟨h1, h2⟩ := hf j hj
      have c1 := hrow.cell (i := j * 2) (by omega)
      have c2 := hrow.cell (i := j * 2 + 1) (by omega)
      rw [h1] at c1
      rw [h2] at c2
      simp only [Nat.zero_add]
      exact ⟨c1, c2⟩


section
variable {w wr1 w' w'' : World} {G P R m k : Nat} {name ip : ByteArray} {port : Int} {f : Nat → Value}
theorem keep3_drew (h : (w'.cell? ⟨G, 0, none⟩ = some (.string name) ∧ w'.cell? ⟨P, 0, none⟩ = some (.string ip) ∧ w'.cell? ⟨P, 1, none⟩ = some (.int .i64 port) ∧ Mid w wr1 R m k f w')) : (w'.drew.cell? ⟨G, 0, none⟩ = some (.string name) ∧ w'.drew.cell? ⟨P, 0, none⟩ = some (.string ip) ∧ w'.drew.cell? ⟨P, 1, none⟩ = some (.int .i64 port) ∧ Mid w wr1 R m k f w'.drew) :=
  ⟨h.1, h.2.1, h.2.2.1, ⟨h.2.2.2.1.drew, ⟨h.2.2.2.2.1.os, h.2.2.2.2.1.tape, h.2.2.2.2.1.output, h.2.2.2.2.1.size, h.2.2.2.2.1.block⟩, h.2.2.2.2.2⟩⟩
theorem keep3_below (h : (w'.cell? ⟨G, 0, none⟩ = some (.string name) ∧ w'.cell? ⟨P, 0, none⟩ = some (.string ip) ∧ w'.cell? ⟨P, 1, none⟩ = some (.int .i64 port) ∧ Mid w wr1 R m k f w')) (hb : Below w'.heap.size w' w'') : (w''.cell? ⟨G, 0, none⟩ = some (.string name) ∧ w''.cell? ⟨P, 0, none⟩ = some (.string ip) ∧ w''.cell? ⟨P, 1, none⟩ = some (.int .i64 port) ∧ Mid w wr1 R m k f w'') := by
  obtain ⟨h1, h2, h3, h5⟩ := h
  have hR : R < w'.heap.size := by obtain ⟨_, _, f', hr, _⟩ := h5; exact hr.lt
  exact ⟨(hb.cell (World.block_lt_of_cell? _ _ h1)).trans h1, (hb.cell (World.block_lt_of_cell? _ _ h2)).trans h2, (hb.cell (World.block_lt_of_cell? _ _ h3)).trans h3, h5.below hR hb⟩
theorem keep3_alloc (h : (w'.cell? ⟨G, 0, none⟩ = some (.string name) ∧ w'.cell? ⟨P, 0, none⟩ = some (.string ip) ∧ w'.cell? ⟨P, 1, none⟩ = some (.int .i64 port) ∧ Mid w wr1 R m k f w')) (o : Obj) : ((w'.alloc o).cell? ⟨G, 0, none⟩ = some (.string name) ∧ (w'.alloc o).cell? ⟨P, 0, none⟩ = some (.string ip) ∧ (w'.alloc o).cell? ⟨P, 1, none⟩ = some (.int .i64 port) ∧ Mid w wr1 R m k f (w'.alloc o)) := keep3_below h ((Below.refl _ _).alloc (Nat.le_refl _) _)
theorem keep3_set (h : (w'.cell? ⟨G, 0, none⟩ = some (.string name) ∧ w'.cell? ⟨P, 0, none⟩ = some (.string ip) ∧ w'.cell? ⟨P, 1, none⟩ = some (.int .i64 port) ∧ Mid w wr1 R m k f w')) (hR : w.heap.size ≤ R) (hG : G ≠ R) (hP : P ≠ R) (v : Value) : ((w'.setCell ⟨R, k, none⟩ v).cell? ⟨G, 0, none⟩ = some (.string name) ∧ (w'.setCell ⟨R, k, none⟩ v).cell? ⟨P, 0, none⟩ = some (.string ip) ∧ (w'.setCell ⟨R, k, none⟩ v).cell? ⟨P, 1, none⟩ = some (.int .i64 port) ∧ Mid w wr1 R m k f (w'.setCell ⟨R, k, none⟩ v)) := by
  obtain ⟨h1, h2, h3, h5⟩ := h
  have hk : ∀ (x : Addr), x.block ≠ R → (w'.setCell ⟨R, k, none⟩ v).cell? x = w'.cell? x := fun x hx => World.cell?_of_block (w := w') (Below.heap_setCell _ _ _ _ hx)
  exact ⟨(hk _ hG).trans h1, (hk _ hP).trans h2, (hk _ hP).trans h3, h5.set hR v⟩
theorem mid3_of {a b c : Prop} (h : a ∧ b ∧ c ∧ Mid w wr1 R m k f w') : Mid w wr1 R m k f w' := h.2.2.2
end
/-- A line of three words at block q. -/
def Line3 (w : World) (q : Nat) (name ip : ByteArray) (port : Int) : Prop :=
  w.cell? ⟨q, 0, none⟩ = some (.string name) ∧ w.cell? ⟨q, 1, none⟩ = some (.string ip) ∧ w.cell? ⟨q, 2, none⟩ = some (.string ⟨(Lib.itoa port).toArray⟩)

theorem Line3.kept {w w' : World} {q : Nat} {name ip : ByteArray} {port : Int} (h : Line3 w q name ip port) (hb : w'.heap[q]? = w.heap[q]?) : Line3 w' q name ip port :=
  ⟨(World.cell?_of_block (a := ⟨q, 0, none⟩) hb).trans h.1, (World.cell?_of_block (a := ⟨q, 1, none⟩) hb).trans h.2.1, (World.cell?_of_block (a := ⟨q, 2, none⟩) hb).trans h.2.2⟩

theorem Line3.lt {w : World} {q : Nat} {name ip : ByteArray} {port : Int} (h : Line3 w q name ip port) : q < w.heap.size := World.block_lt_of_cell? _ _ h.1

/-- The lines: cell j of row R holds a line of three words. -/
def Lines3 (w : World) (R k : Nat) (name : ByteArray) (ip : Nat → ByteArray) (port : Nat → Int) : Prop :=
  ∀ j, j < k → ∃ q, w.cell? ⟨R, j, none⟩ = some (.slice (some ⟨q, 0, none⟩) 3 3) ∧ Line3 w q name (ip j) (port j)

theorem Lines3.kept {w w' : World} {R k : Nat} {name : ByteArray} {ip : Nat → ByteArray} {port : Nat → Int} (h : Lines3 w R k name ip port) (hb : Below w.heap.size w w') : Lines3 w' R k name ip port := fun j hj => by
  obtain ⟨q, hc, hq⟩ := h j hj
  exact ⟨q, (hb.cell (World.block_lt_of_cell? _ _ hc)).trans hc, hq.kept (hb.block _ hq.lt)⟩

theorem line3_new (w2 : World) (R k : Nat) (v o1 : Value) (name ip : ByteArray) (port : Int) (hR : R < w2.heap.size) :
    Line3 (((w2.alloc (.cells #[.string name, .string ip, .string ⟨(Lib.itoa port).toArray⟩] 9)).alloc (.cells #[o1] 39)).setCell ⟨R, k, none⟩ v) w2.heap.size name ip port := by
  have hb : ((((w2.alloc (.cells #[.string name, .string ip, .string ⟨(Lib.itoa port).toArray⟩] 9)).alloc (.cells #[o1] 39)).setCell ⟨R, k, none⟩ v)).heap[w2.heap.size]? = some (.cells #[.string name, .string ip, .string ⟨(Lib.itoa port).toArray⟩] 9) := by
    rw [Below.heap_setCell _ _ _ _ (by show w2.heap.size ≠ R; omega), Below.heap_alloc _ _ _ (by simp)]
    exact blk_alloc_new _ _
  refine ⟨?_, ?_, ?_⟩ <;> simp [World.cell?, hb]

theorem lines3_step {w wr1 W : World} {R m k q : Nat} {f : Nat → Value} {name : ByteArray} {ip : Nat → ByteArray} {port : Nat → Int} (hk : k < m) (hM : Mid w wr1 R m k f W) (hrow : wr1.rowIs R 39 m f)
    (hL : Lines3 wr1 R k name ip port) (hc : W.cell? ⟨R, k, none⟩ = some (.slice (some ⟨q, 0, none⟩) 3 3)) (hq : Line3 W q name (ip k) (port k)) : Lines3 W R (k + 1) name ip port := by
  obtain ⟨h1, h2, f', h3, h4⟩ := hM
  intro j hj
  by_cases e : j = k
  · subst e
    exact ⟨q, hc, hq⟩
  · obtain ⟨q', hc', hq'⟩ := hL j (by omega)
    have hqR : q' ≠ R := by
      intro e'
      subst e'
      obtain ⟨q0, hc0, _⟩ := hL 0 (by omega)
      have := hq'.1
      rw [hc0] at this
      cases this
    refine ⟨q', ?_, hq'.kept (h2.block q' hq'.lt (by simpa using hqR))⟩
    rw [h3.cell (by omega), h4 j e, ← hrow.cell (by omega)]
    exact hc'

theorem write3_any (G B m : Nat) (name : ByteArray) (ip : Nat → ByteArray) (port : Nat → Int) (w : World) (hm : m ≤ 65536)
    (htab : Lib.TabIs Tryd.prog w tabName .u64 Lib.pow10Tab) (hG0 : w.cell? ⟨G, 0, none⟩ = some (.string name)) (hT : Pair w B 0 m ip port)
    (hp : ∀ i, -9223372036854775808 ≤ port i ∧ port i ≤ 9223372036854775807) :
    Calls Tryd.prog 18 #[.pointer (some ⟨G, 0, none⟩), .slice (some ⟨B, 0, none⟩) m m] w fun e w' => ∃ R, e = .returned (.slice (some ⟨R, 0, none⟩) m m) ∧ Lines3 w' R m name ip port ∧ Below w.heap.size w w' := by
  have hGlt : G < w.heap.size := World.block_lt_of_cell? _ _ hG0
  have hmk := run_make_room (P := Tryd.prog) 26 39 (.slice none 0 0) 24 Tryd.underlying26 Tryd.info39 rfl m (by omega) (by omega)
  go_enter Tryd.func18, Tryd.ntmps18
  go_wp2
  go_loopw [5, 13] (fun l i wr => ∃ k : Nat, k ≤ m ∧ i = .int .i64 k ∧ l = .slice (some ⟨w.heap.size, 0, none⟩) k m ∧ Below w.heap.size w wr ∧ (∃ f, wr.rowIs w.heap.size 39 m f) ∧ Lines3 wr w.heap.size k name ip port) (fun _ i _ => m - (intOf i).toNat)
  case atStart => exact ⟨0, Nat.zero_le _, rfl, rfl, (Below.refl _ _).alloc (Nat.le_refl _) _, ⟨_, World.rowIs_made w _ m 39⟩, fun j hj => absurd hj (Nat.not_lt_zero _)⟩
  case round =>
    obtain ⟨k, hk, rfl, rfl, hb, ⟨f, hrow⟩, hL⟩ := hrel
    by_cases hlt : k < m
    · obtain ⟨h1, h2⟩ := hT k hlt
      have hBlt : B < w.heap.size := World.block_lt_of_cell? _ _ h1
      rw [Nat.zero_add] at h1 h2
      have g1 := (hb.cell (p := ⟨B, k * 2, none⟩) hBlt).trans h1
      have g2 := (hb.cell (p := ⟨B, k * 2 + 1, none⟩) hBlt).trans h2
      have gG := (hb.cell (p := ⟨G, 0, none⟩) hGlt).trans hG0
      obtain ⟨hp1, hp2⟩ := hp k
      clear hT h1 h2 hp
      go_wp2
      obtain ⟨wr1, hw1⟩ : ∃ x, x = wr.alloc (.cells #[.string (ip k), .int .i64 (port k)] 49) := ⟨_, rfl⟩
      rw [← hw1]
      have hRlt : w.heap.size < wr.heap.size := hrow.lt
      have hC : wr1.cell? ⟨G, 0, none⟩ = some (.string name) ∧ wr1.cell? ⟨wr.heap.size, 0, none⟩ = some (.string (ip k)) ∧ wr1.cell? ⟨wr.heap.size, 1, none⟩ = some (.int .i64 (port k)) ∧ Mid w wr1 w.heap.size m k f wr1 := by
        subst hw1
        refine ⟨by simp [go_sem, gG, Nat.lt_trans hGlt hRlt], by simp [go_sem], by simp [go_sem], hb.alloc hb.size _, ⟨rfl, rfl, rfl, Nat.le_refl _, fun _ _ _ => rfl⟩, f, hrow.alloc _, fun _ _ => rfl⟩
      have hL1 : Lines3 wr1 w.heap.size k name ip port := by
        subst hw1
        intro j hj
        obtain ⟨q, hc, hq⟩ := hL j hj
        exact ⟨q, by rw [← hc]; exact World.cell?_of_block (Below.heap_alloc _ _ _ hRlt), hq.kept (Below.heap_alloc _ _ _ hq.lt)⟩
      have hrow1 : wr1.rowIs w.heap.size 39 m f := by
        subst hw1
        exact hrow.alloc _
      clear hw1
      go_region_held3 (fun w' => w'.cell? ⟨G, 0, none⟩ = some (.string name) ∧ w'.cell? ⟨wr.heap.size, 0, none⟩ = some (.string (ip k)) ∧ w'.cell? ⟨wr.heap.size, 1, none⟩ = some (.int .i64 (port k)) ∧ Mid w wr1 w.heap.size m k f w')
        (first | exact keep3_drew (by assumption) | exact keep3_below (by assumption) (by assumption) | exact keep3_alloc (by assumption) _ | exact keep3_set (by assumption) (by omega) (by omega) (by omega) _)
        (first
          | (go_at_call 19; refine (itoa_b _ (by assumption) (by assumption) w _ htab (mid3_of (by assumption)).1).mono ?_; rintro e w2 ⟨rfl, hb2⟩)
          | (refine step_room1 rfl (.tmp 17) (.tmp 28) rfl w.heap.size k m rfl hlt f (mid3_of (by assumption)) (w2.heap.size + 1) (.slice (some ⟨w2.heap.size, 0, none⟩) 3 3) rfl (by simp [go_sem]) rfl ?_))
      go_wp2
      go_roundw
      case rel =>
        have hM2 : Mid w wr1 w.heap.size m k f w2 := mid3_of (keep3_below (keep3_drew hC) hb2)
        have hR2 : w.heap.size < w2.heap.size := by obtain ⟨_, h⟩ := row_of hM2; exact h.lt
        have hMf := ((hM2.alloc (.cells #[.string name, .string (ip k), .string ⟨(Lib.itoa (port k)).toArray⟩] 9)).alloc (.cells #[.slice (some ⟨w2.heap.size, 0, none⟩) 3 3] 39))
        have hMF := hMf.set (Nat.le_refl _) (.slice (some ⟨w2.heap.size, 0, none⟩) 3 3)
        exact ⟨k + 1, by omega, by go_num, rfl, hMF.1, row_of hMF, lines3_step (q := w2.heap.size) hlt hMF hrow1 hL1 (set_here hMf hlt _) (line3_new _ _ _ _ _ _ _ _ hR2)⟩
      case measure => simp [intOf]; omega
    · have e : k = m := by omega
      subst e
      go_wp2
      go_ret
      exact ⟨_, rfl, hL, hb⟩

/-- ZZwriteDemotedReplicas. -/
theorem zzwrite3_any (G B m : Nat) (name : ByteArray) (ip : Nat → ByteArray) (port : Nat → Int) (w : World) (hm : m ≤ 65536)
    (htab : Lib.TabIs Tryd.prog w tabName .u64 Lib.pow10Tab) (hG0 : w.cell? ⟨G, 0, none⟩ = some (.string name)) (hG11 : w.cell? ⟨G, 11, none⟩ = some (.slice (some ⟨B, 0, none⟩) m m)) (hT : Pair w B 0 m ip port)
    (hp : ∀ i, -9223372036854775808 ≤ port i ∧ port i ≤ 9223372036854775807) :
    Calls Tryd.prog 7 #[.pointer (some ⟨G, 0, none⟩)] w fun e w' => ∃ R, e = .returned (.slice (some ⟨R, 0, none⟩) m m) ∧ Lines3 w' R m name ip port ∧ Below w.heap.size w w' := by
  go_enter Tryd.func7, Tryd.ntmps7
  go_wp2_with (first
    | (go_at_call 18; refine (write3_any G B m name ip port _ hm htab hG0 hT hp).mono ?_; rintro e w1 ⟨R, rfl, hL, hb⟩)
    | go_in)
  go_ret
  exact ⟨R, rfl, hL, hb⟩

end Go.Proofs.Qxb6608830aDoor
