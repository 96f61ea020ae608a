import Derived.Test.Qxb6608792aJudgeTake
namespace Go.Proofs.Qxb6608792a
open Go.RowKit Go.Deep Go.Maps
set_option maxRecDepth 100000
set_option maxHeartbeats 1000000

theorem take_fresh (w0 w : World) (C O M g n : Nat) (hn : n ≤ 65536) (hn1 : 1 ≤ n) (hf : FreshAt w0 g n) (hb : Below w0.heap.size w0 w) (hC : w.heap[C]? = some (clsObj (.slice none 0 0) O n M))
    (hO : w.rowIs O 21 n (fun _ => .int .i32 0)) (hM : w.heap[M]? = some (.map #[] 0)) (hMo : w.ownsMap Try.prog 23 (plainElem (H := Unit) Try.prog 21) M 0 (.map [])) (bC : w0.heap.size ≤ C) (bO : w0.heap.size ≤ O) (bM : w0.heap.size ≤ M) :
    Calls Try.prog 16 #[.pointer (some ⟨C, 0, none⟩), .slice (some ⟨g, 0, none⟩) n n] w fun e w' => e = .returned (.tuple #[]) ∧ ∃ K cap, w0.heap.size ≤ K ∧ T1 w0 w' C O M n n K cap := by
  have c0 : w.cell? ⟨C, 0, none⟩ = some (.slice none 0 0) := by simp [World.cell?, hC, clsObj]
  have c1 : w.cell? ⟨C, 1, none⟩ = some (.slice none 0 0) := by simp [World.cell?, hC, clsObj]
  have c3 : w.cell? ⟨C, 3, none⟩ = some (.map (some M)) := by simp [World.cell?, hC, clsObj]
  have z0 : w.frozen? ⟨C, 0, none⟩ = false := by simp [World.frozen?, hC, clsObj]
  have z1 : w.frozen? ⟨C, 1, none⟩ = false := by simp [World.frozen?, hC, clsObj]
  have s0 := setCell_id c0
  have s1 := setCell_id c1
  go_enter Try.func16, Try.ntmps16
  go_wp2_with (first | (refine wpList_clear_empty _ rfl (.tmp 31) rfl M rfl hM ?_) | fail)
  go_loopw [34] (fun i wr => ∃ k : Nat, k ≤ n ∧ i = .int .i64 k ∧ ((k = 0 ∧ wr = w) ∨ (1 ≤ k ∧ ∃ K cap, w0.heap.size ≤ K ∧ T1 w0 wr C O M n k K cap))) (fun i _ => n - (intOf i).toNat)
  case atStart => exact ⟨0, Nat.zero_le _, rfl, .inl ⟨rfl, rfl⟩⟩
  case round =>
    obtain ⟨k, hk, rfl, hst⟩ := hrel
    rcases hst with ⟨rfl, rfl⟩ | ⟨hk1, K, cap, bK, ht⟩
    · obtain ⟨p, h1, h2, h3⟩ := hf 0 (by omega)
      have hg := World.block_lt_of_cell? _ _ h1
      have hp := World.block_lt_of_cell? _ _ h2
      have n1 : wr.cell? ⟨g, 0, none⟩ = some (.pointer (some ⟨p, 0, none⟩)) := (hb.cell hg).trans h1
      have n2 : wr.cell? ⟨p, 0, none⟩ = some (.slice none 0 0) := (hb.cell hp).trans h2
      have hlk := look0 hMo
      have hpos : (0 : Int) < (n : Int) := by omega
      go_wp2_with (first
        | (go_at_call 20; refine (liked_nil _ _ n2).mono ?_; rintro e w' ⟨rfl, rfl⟩)
        | (go_at_call 21; refine (hash_nil _).mono ?_; rintro e w' ⟨rfl, rfl⟩)
        | fail)
      refine wp_loop_rounds 1 ?_
      rw [rounds_succ]
      go_wp2
      have hClt : C < wr.heap.size := (Array.getElem?_eq_some_iff.1 hC).1
      go_region_law (refine step_class rfl (.tmp 99) (.tmp 108) rfl rfl wr.heap.size rfl (by simp [go_sem]) (by simp [go_sem]) (by simp [go_sem]) (by simp [go_sem]) ?_; intro G cap w' cur hG hgh q0 q1 q2 q3 hgrow; have hCw : w'.heap[C]? = some (clsObj (.slice none 0 0) O n M) := (hgrow.block C (Nat.lt_of_lt_of_le hClt (by simp)) (by simp)).trans ((Below.heap_alloc wr _ C hClt).trans hC); have cw1 : w'.cell? ⟨C, 1, none⟩ = some (.slice none 0 0) := (by simp [World.cell?, hCw, clsObj]); have zw1 : w'.frozen? ⟨C, 1, none⟩ = false := (by simp [World.frozen?, hCw, clsObj]))
      all_goals
        have hMlt : M < wr.heap.size := (Array.getElem?_eq_some_iff.1 hM).1
        have hMw : w'.ownsMap Try.prog 23 (plainElem (H := Unit) Try.prog 21) M 0 (.map []) := (hMo.alloc _).drew.kept hgrow (by simp)
        have hMC : M ≠ C := fun e => by rw [e, hC] at hM; simp [clsObj] at hM
        have hMW := hMw.setCell (a := ⟨C, 1, none⟩) hMC (.slice (some ⟨G, 0, none⟩) 1 cap)
        have cw3 : w'.cell? ⟨C, 3, none⟩ = some (.map (some M)) := by simp [World.cell?, hCw, clsObj]
        clear c0 c1 c3 z0 z1 s0 s1 hlk n1 n2 h1 h2 h3 zw1
        go_wp2_with (first
          | (at_mapUpdate; refine wpList_mapUpdate_own _ rfl _ _ _ 53 rfl 23 21 law23 Try.underlying53 _ M 0 (.map []) rfl hMW (by decide) _ _ _ rfl rfl key0 (.lit (.int .i32 0)) [] (plainElem_int Try.underlying21 (by decide)) ?_; intro w2 hown2 hgrow2; obtain ⟨bG, ht⟩ := T1.born hb bC bM hO hM hCw hG hgh q0 q1 q2 q3 hgrow hown2 hgrow2; obtain ⟨d1, d2, e2, ez, ⟨ov, o1⟩, oz, hCO, hCK, hKO⟩ := ht.reads hn1; simp only [Int.natCast_zero] at e2; clear hgrow hgrow2 hgh hCw hown2 hMW hMw)
          | fail)
        go_roundw
        case rel => exact ⟨1, by omega, by go_num, .inr ⟨by omega, G, cap, bG, ht.step0 bO bG⟩⟩
        case measure => simp [intOf]; omega
    · by_cases hlt : k < n
      · obtain ⟨p, h1, h2, h3⟩ := hf k hlt
        have hg := World.block_lt_of_cell? _ _ h1
        have hp := World.block_lt_of_cell? _ _ h2
        have n1 : wr.cell? ⟨g, k, none⟩ = some (.pointer (some ⟨p, 0, none⟩)) := (ht.below.cell hg).trans h1
        have n2 : wr.cell? ⟨p, 0, none⟩ = some (.slice none 0 0) := (ht.below.cell hp).trans h2
        have d0 : wr.cell? ⟨C, 0, none⟩ = some (.slice none 0 0) := by simp [World.cell?, ht.cls, clsObj]
        have d1 : wr.cell? ⟨C, 1, none⟩ = some (.slice (some ⟨K, 0, none⟩) 1 cap) := by simp [World.cell?, ht.cls, clsObj]
        have d2 : wr.cell? ⟨C, 2, none⟩ = some (.slice (some ⟨O, 0, none⟩) n n) := by simp [World.cell?, ht.cls, clsObj]
        have d3 : wr.cell? ⟨C, 3, none⟩ = some (.map (some M)) := by simp [World.cell?, ht.cls, clsObj]
        have hlk := look1 ht.map
        obtain ⟨f, hrow⟩ := ht.row
        obtain ⟨cur, hkk, k0, k1, k2, k3⟩ := ht.own
        have e0 : wr.cell? ⟨K, 0, none⟩ = some (.int .i64 0) := by simp [World.cell?, hkk, k0]
        have e1 : wr.cell? ⟨K, 1, none⟩ = some (.int .i64 0) := by simp [World.cell?, hkk, k1]
        have e2 : wr.cell? ⟨K, 2, none⟩ = some (.int .i64 k) := by simp [World.cell?, hkk, k2]
        have ez : wr.frozen? ⟨K, 2, none⟩ = false := by simp [World.frozen?, hkk]
        have o1 := hrow.cell hlt
        have oz := hrow.frozen k
        have hCO : C ≠ O := fun e => by obtain ⟨oc, ho, -, -⟩ := hrow; have := ht.cls; rw [e, ho] at this; simp [clsObj] at this
        have hCK : C ≠ K := fun e => by have := ht.cls; rw [e, hkk] at this; simp [clsObj] at this
        have hKO : K ≠ O := fun e => by obtain ⟨oc, ho, -, -⟩ := hrow; rw [e, ho] at hkk; simp at hkk
        clear hrow hkk k0 k1 k2 k3 h1 h2 h3
        go_wp2_with (first
          | (go_at_call 20; refine (liked_nil _ _ n2).mono ?_; rintro e w' ⟨rfl, rfl⟩)
          | (go_at_call 21; refine (hash_nil _).mono ?_; rintro e w' ⟨rfl, rfl⟩)
          | fail)
        refine wp_loop_rounds 1 ?_
        rw [rounds_succ]
        go_wp2_with (first
          | (go_at_call 23; refine (set_nil C K cap _ d0 d1 e0 e1).mono ?_; rintro e w' ⟨rfl, q, rfl⟩)
          | (go_at_call 22; refine (equal_nil _).mono ?_; rintro e w' ⟨rfl, rfl⟩)
          | fail)
        go_roundw
        case rel => exact ⟨k + 1, by omega, by go_num, .inr ⟨by omega, K, cap, bK, ht.step bO bK q⟩⟩
        case measure => simp [intOf]; omega
      · have e : k = n := by omega
        subst e
        go_wp2
        go_end0
        exact ⟨rfl, K, cap, bK, ht⟩

end Go.Proofs.Qxb6608792a
