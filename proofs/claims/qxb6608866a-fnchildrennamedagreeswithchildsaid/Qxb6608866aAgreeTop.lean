import Derived.Test.Qxb6608866aStage
import Derived.Test.Qxb6608866aBytesA
import Derived.Test.Qxb6608866aChild
import Derived.Deep.LoopGhost
import Derived.LaidEqlPtr
import Derived.Lib.Builder
namespace Go.Proofs.Qxb6608866a
open Go.RowKit Go.Deep Go.MapKept
open Go.WideShapes (add_plain)
open Go.Maps (Keyed)
set_option maxRecDepth 100000
set_option maxHeartbeats 2000000

/-- 'nil == p'. -/
theorem run_eql_nil_ptr {P : Program} (w : World) {tp te : TypeId} (a : Addr) (hp : P.underlying tp = some (.pointer te)) :
    (binOp .eql tp (.pointer none) (.pointer (some a))).run P w = .ok (.bool false) w := by
  have h : ∀ d : Nat, (Op.equalIn (d + 1) tp (.pointer none) (.pointer (some a))).run P w = .ok false w := fun d => by
    simp [Op.equalIn, run_underlying hp]
  simp only [binOp]
  simp [Op.equal, Op.maxDepth, h 9999]

/-- The table of the children found so far: the first j of G. -/
structure ByName (W0 wr : World) (bB : Nat) (G : List MapEntry) (j : Nat) (F : ByteArray × ByteArray → Option Value) : Prop where
  since : Since2 W0 wr bB bB
  tab : Tab Try.prog 42 nm wr bB F
  fst : ∀ i e, i < j → G[i]? = some e → F (nameOf e) = some e.val
  snd : ∀ a v, F a = some v → ∃ i e, i < j ∧ G[i]? = some e ∧ a = nameOf e

/-- The table at its end. -/
structure Filled (W0 wr : World) (bB : Nat) (es : Array MapEntry) (id : ByteArray) (F : ByteArray × ByteArray → Option Value) : Prop where
  since : Since2 W0 wr bB bB
  tab : Tab Try.prog 42 nm wr bB F
  fst : ∀ e ∈ es.toList, ident e.key = id → F (nameOf e) = some e.val
  snd : ∀ a, a.2 ≠ id → F a = none

theorem Filled.kept {W0 wr w' : World} {bB : Nat} {es : Array MapEntry} {id : ByteArray} {F : ByteArray × ByteArray → Option Value} (h : Filled W0 wr bB es id F) (hg : wr.grownBy w' none) : Filled W0 w' bB es id F :=
  ⟨h.since.grown hg (fun j hj => by cases hj), h.tab.kept hg (by simp), h.fst, h.snd⟩

theorem ByName.filled {W0 wr : World} {bB : Nat} {G : List MapEntry} {es : Array MapEntry} {id : ByteArray} {F : ByteArray × ByteArray → Option Value} (h : ByName W0 wr bB G G.length F) (hk : ∀ x ∈ es.toList, KidKey x) (hm : ∀ x, x ∈ G ↔ (x ∈ es.toList ∧ ident x.key = id)) : Filled W0 wr bB es id F := by
  refine ⟨h.since, h.tab, fun e he hi => ?_, fun a ha => ?_⟩
  · obtain ⟨i, hl, e1⟩ := List.getElem_of_mem ((hm e).2 ⟨he, hi⟩)
    exact h.fst i e hl (by rw [List.getElem?_eq_getElem hl, e1])
  · cases hF : F a with
    | none => rfl
    | some v =>
      obtain ⟨i, e, _, he, rfl⟩ := h.snd a v hF
      obtain ⟨h1, h2⟩ := (hm e).1 (List.mem_of_getElem? he)
      obtain ⟨a', _, hk', _⟩ := hk e h1
      rw [nameOf_eq hk'] at ha
      rw [ident_eq hk'] at h2
      exact absurd h2 ha

theorem agree_top (a0 : Option Addr) (b0 off0 n0 cap0 : Nat) (ha0 : 0 < n0 → a0 = some ⟨b0, off0, none⟩) (s : Nat → ByteArray) (a1 : Option Addr) (b1 off1 n1 cap1 : Nat) (ha1 : 0 < n1 → a1 = some ⟨b1, off1, none⟩) (t : Nat → ByteArray) (id : ByteArray) (w : World)
    (hS : Strs w b0 off0 n0 s) (hT : Strs w b1 off1 n1 t) (hn0 : n0 ≤ maxLen) (hn1 : n1 ≤ maxLen) (hs : ∀ i, (s i).size ≤ maxLen) (ht : ∀ i, (t i).size ≤ maxLen) (hid : id.size ≤ maxLen) :
    Calls Try.prog 6 #[.slice a0 n0 cap0, .slice a1 n1 cap1, .string id] w fun e w' => e = .returned (.bool true) ∧ Below w.heap.size w w' := by
  have hn0' := hn0
  have hn1' := hn1
  have hid' := hid
  unfold maxLen at hn0' hn1' hid'
  obtain ⟨i57, hi57⟩ : ∃ i, Try.prog.info? 57 = some i := ⟨_, rfl⟩
  go_enter Try.func6, Try.ntmps6
  go_wp2_with fail
  refine (bytes22_any a0 b0 off0 n0 cap0 ha0 s a1 b1 off1 n1 cap1 ha1 t id w hS hT hn0 hn1 hs ht hid).mono ?_
  rintro e w1 ⟨⟨xb, rfl⟩, rfl⟩
  cases xb with
  | false =>
    go_wp2
    go_ret
    exact ⟨rfl, Below.refl _ _⟩
  | true =>
    by_cases c0 : n0 ≤ 65536
    case neg =>
      have c0' : (65536 : Int) < (n0 : Int) := by omega
      go_wp2
      go_ret
      exact ⟨rfl, Below.refl _ _⟩
    have c0' : ¬ (65536 : Int) < (n0 : Int) := by omega
    by_cases c1 : n1 ≤ 65536
    case neg =>
      have c1' : (65536 : Int) < (n1 : Int) := by omega
      go_wp2
      go_ret
      exact ⟨rfl, Below.refl _ _⟩
    have c1' : ¬ (65536 : Int) < (n1 : Int) := by omega
    by_cases c2 : id.size ≤ 1048576
    case neg =>
      have c2' : (1048576 : Int) < (id.size : Int) := by omega
      go_wp2
      go_ret
      exact ⟨rfl, Below.refl _ _⟩
    have c2' : ¬ (1048576 : Int) < (id.size : Int) := by omega
    go_wp2_with fail
    refine (budget_any a0 b0 off0 n0 cap0 ha0 s _ w hS hn0 hs (by omega) (by omega)).mono ?_
    rintro e w1 ⟨⟨r, hr0, hr1, rfl⟩, rfl⟩
    by_cases r0 : r < 0
    · go_wp2
      go_ret
      exact ⟨rfl, Below.refl _ _⟩
    go_wp2_with fail
    refine (budget_any a1 b1 off1 n1 cap1 ha1 t _ w hT hn1 ht (by omega) (by omega)).mono ?_
    rintro e w1 ⟨⟨r', hr0', hr1', rfl⟩, rfl⟩
    by_cases r0' : r' < 0
    · go_wp2
      go_ret
      exact ⟨rfl, Below.refl _ _⟩
    go_wp2_with fail
    refine (build_any a0 b0 off0 n0 cap0 ha0 s a1 b1 off1 n1 cap1 ha1 t w hS hT (by omega) (by omega) hs ht).mono ?_
    rintro e w1 ⟨m, es, clock, f, hm, ⟨hm0, hm1⟩, rfl, hB⟩
    go_wp2_with fail
    refine (par_any w.heap.size w1).mono ?_
    rintro e w2 ⟨rfl, rfl⟩
    have hSt0 := Stage.of hB hs ht
    have hbel : Below w.heap.size w w1 := (Below.refl _ _).grown hB.grown (Nat.le_refl _) (fun j hj => by cases hj)
    have hsz1 := hB.heap
    have hbel0 : Below w.heap.size w (w1.alloc (parObj w.heap.size)) := hbel.alloc (by omega) _
    clear hB hS hT ha0 ha1
    obtain ⟨W0, hW0⟩ : ∃ W0, Hid (w1.alloc (parObj w.heap.size) = W0) := ⟨_, rfl⟩
    have hW0' := hW0.out
    rw [hW0'] at hSt0 hbel0 ⊢
    have hsz0' : w1.heap.size + 1 ≤ W0.heap.size := by rw [← hW0']; simp
    clear hW0' hW0 hbel
    generalize w1.heap.size = N at *
    have hst := hSt0.map.stamped
    have hkk := hSt0.kidKey
    have hes : es.size ≤ 65536 := Nat.le_trans hSt0.size hm
    have hmm := fun n w => run_makeMap_hint (P := Try.prog) 33 42 37 Try.underlying33 .i64 n w
    go_wp2_with fail
    refine (named_any N w.heap.size id es clock W0 hSt0.parCell hSt0.map.blk hst hkk hes).mono ?_
    rintro e w3 ⟨v, G, rfl, hGot⟩
    have hs3 : W0.heap.size ≤ w3.heap.size := hGot.grown.size
    obtain ⟨bB, hbB⟩ : ∃ bB, Hid (w3.heap.size = bB) := ⟨_, rfl⟩
    have hbB' := hbB.out
    have hS3 : Since2 W0 w3 bB bB := (Since2.refl _ _ _).grown hGot.grown (fun j hj => by cases hj)
    have hS4 : Since2 W0 (w3.alloc (.map #[] 0)) bB bB := hS3.grown (World.grownBy_alloc _ _ none) (fun j hj => by cases hj)
    have keep : ∀ wr, Since2 W0 wr bB bB → Stage wr w.heap.size (w.heap.size + 1) N m s t es clock f := fun wr hsn => hSt0.kept hsn (by have := hSt0.map.lt; omega) (by have := hSt0.map.lt; omega) (fun _ _ _ e => by have := (Array.getElem?_eq_some_iff.1 e).1; omega) (fun _ _ _ e => by have := (Array.getElem?_eq_some_iff.1 e).1; omega)
    have hT4 : Tab Try.prog 42 nm (w3.alloc (.map #[] 0)) bB (fun _ => none) := by
      have := Tab.made Try.prog 42 nm w3
      rw [hbB'] at this
      exact this
    have hfin : ∀ wr, Since2 W0 wr bB bB → Below w.heap.size w wr := fun wr hsn => Since2.below hbel0 hsn (by omega) (by omega) (by omega)
    clear hSt0
    by_cases hnil : G = []
    · have hv := hGot.nil hnil
      subst hv
      obtain ⟨F, hFil⟩ : ∃ F, Filled W0 (w3.alloc (.map #[] 0)) bB es id F :=
        ⟨fun _ => none, hS4, hT4, fun e he hi => by have := (hGot.mem e).2 ⟨he, hi⟩; rw [hnil] at this; simp at this, fun _ _ => rfl⟩
      subst hnil
      clear hS3 hS4 hT4 hGot hkk
      go_wp2
      go_loopg [13] 0 (fun g jj wi => jj = .int .i64 0 ∧ Filled W0 wi bB es id F)
      case atStart => exact ⟨rfl, hFil⟩
      case round =>
        clear hFil
        obtain ⟨rfl, hFil⟩ := hrel
        go_wp2
        go_loopg [15] m (fun gg ii wi => ∃ i : Nat, gg = m - i ∧ i ≤ m ∧ ii = .int .i64 (i : Int) ∧ Filled W0 wi bB es id F)
        case atStart => exact ⟨0, rfl, Nat.zero_le _, rfl, hFil⟩
        case round =>
          clear hFil
          obtain ⟨i, rfl, hi, rfl, hFil⟩ := hrel
          by_cases him : i < m
          · have hSti := keep _ hFil.since
            obtain ⟨x, hx, hkey⟩ := hSti.all i him
            obtain ⟨a', be, hk', hz1, hz2, _, hval, hblk⟩ := hSti.kid x hx
            have ea : a' = (s i, t i) := nm_inj _ _ (hk'.symm.trans hkey)
            subst ea
            clear hk'
            have c0 := hSti.row.cell (i := i * 2) (by omega)
            have c1 := hSti.row.cell (i := i * 2 + 1) (by omega)
            rw [(hSti.names i him).1] at c0
            rw [(hSti.names i him).2] at c1
            have hlook : ∀ W : World, W.heap[w.heap.size]? = wr.heap[w.heap.size]? → (Instr.lookup 33 (.map (some w.heap.size)) (.agg #[.string (s i), .string (t i)]) false).run Try.prog W = .ok (.pointer (some ⟨be, 0, none⟩)) W := fun W hW => by
              have := (MapAt.mk (hW.trans hSti.map.blk) hSti.map.stamped hSti.map.keys).look_in nm_keyed Try.underlying33 hx
              rw [hkey, hval] at this
              exact this
            have ti : (i : Int) < (m : Int) := by omega
            go_wp2_with fail
            refine (child_any N w.heap.size (s i) (t i) _ wr hSti.parCell hlook hSti.map.lt).mono ?_
            rintro e w5 ⟨rfl, hg5⟩
            have hFil5 := hFil.kept hg5
            have hSt5 := keep _ hFil5.since
            have d0 := hSt5.row.cell (i := i * 2) (by omega)
            have d1 := hSt5.row.cell (i := i * 2 + 1) (by omega)
            rw [(hSt5.names i him).1] at d0
            rw [(hSt5.names i him).2] at d1
            have hl5 := hlook w5 (by rw [hSt5.map.blk, hSti.map.blk])
            have hneq := fun (w : World) (a : Addr) => Lib.run_neq_ptr_same (P := Try.prog) w (tp := 37) a Try.underlying37 hi57
            have heql := fun (w : World) (a : Addr) => run_eql_ptr_same (P := Try.prog) w (tp := 37) a Try.underlying37 hi57
            have henil := fun (w : World) (a : Addr) => run_eql_nil_ptr (P := Try.prog) w (tp := 37) a Try.underlying37
            obtain ⟨kl, hkl⟩ := nm_key (s i, t i) (hs i) (ht i)
            have hlb : ∀ n, (Instr.lookup 33 (.map (some bB)) (.agg #[.string (s i), .string (t i)]) false).run Try.prog (w5.drewN n) = .ok ((F (s i, t i)).getD (.pointer none)) (w5.drewN n) := fun n =>
              (hFil5.tab.kept (w' := w5.drewN n) (row := none) ⟨rfl, rfl, rfl, Nat.le_refl _, fun _ _ _ => rfl⟩ (by simp)).look nm_inj nm_keyed Try.underlying33 (Try.zero37 _) (s i, t i) hkl
            have hF1 := hFil.fst x hx
            rw [nameOf_eq hkey, ident_eq hkey, hval] at hF1
            have hF2 := hFil.snd (s i, t i)
            clear hlook hkey hval hblk hx hkl c0 c1
            by_cases hq : t i = id
            · have hF1 := hF1 hq
              simp only [hF1, Option.getD_some] at hlb
              clear hF1
              subst hq
              go_wp2
              go_quiet (fail)
              go_wp2
              go_roundg (m - (i + 1))
              case rel => exact ⟨i + 1, rfl, by omega, by go_num, ⟨hFil5.since.os, hFil5.since.tape, hFil5.since.output, hFil5.since.size, hFil5.since.block⟩, hFil5.tab.kept (row := none) ⟨rfl, rfl, rfl, Nat.le_refl _, fun _ _ _ => rfl⟩ (by simp), hFil5.fst, hFil5.snd⟩
              case measure => omega
            · have hF2 := hF2 hq
              simp only [hF2, Option.getD_none] at hlb
              clear hF2
              have hq' := str_ne hq
              go_wp2
              go_quiet (fail)
              go_wp2
              go_roundg (m - (i + 1))
              case rel => exact ⟨i + 1, rfl, by omega, by go_num, ⟨hFil5.since.os, hFil5.since.tape, hFil5.since.output, hFil5.since.size, hFil5.since.block⟩, hFil5.tab.kept (row := none) ⟨rfl, rfl, rfl, Nat.le_refl _, fun _ _ _ => rfl⟩ (by simp), hFil5.fst, hFil5.snd⟩
              case measure => omega
          · have ti : ¬ (i : Int) < (m : Int) := by omega
            have hend := hfin _ hFil.since
            go_wp2
            go_ret
            exact ⟨rfl, hend⟩
    · obtain ⟨g, cap, hv, hgl⟩ : ∃ g cap, v = .slice (some ⟨g, 0, none⟩) G.length cap ∧ g < bB := by
        rcases hGot.row.2 with ⟨_, h2⟩ | ⟨g, cap, cur, h1, h2, _⟩
        · exact absurd (List.eq_nil_of_length_eq_zero h2) hnil
        · exact ⟨g, cap, h1, by have := (hGot.row.lt g (by rw [h1]; rfl)).2; omega⟩
      subst hv
      have hpos : 0 < G.length := List.length_pos_iff.2 hnil
      have hGl : G.length ≤ 65536 := by
        have := length_le_of_sub hGot.nodup (fun x hx => ((hGot.mem x).1 hx).1 : ∀ x ∈ G, x ∈ es.toList)
        simp at this
        omega
      have p1 : ((G.length : Int) == 0) = false := by simp [hnil]
      have hrow4 := hGot.row.alloc (.map #[] 0)
      have hB4 : ByName W0 (w3.alloc (.map #[] 0)) bB G 0 (fun _ => none) := ⟨hS4, hT4, fun i e hi => absurd hi (Nat.not_lt_zero _), fun a v h => by cases h⟩
      clear hS3 hS4 hT4
      go_wp2
      go_loopg [13] G.length (fun gg jj wi => ∃ (j : Nat) (F : ByteArray × ByteArray → Option Value), gg = G.length - j ∧ j ≤ G.length ∧ jj = .int .i64 (j : Int) ∧ ByName W0 wi bB G j F ∧ wi.ownsRow (W0.heap.size + 1) 37 1 (.slice (some ⟨g, 0, none⟩) G.length cap) G.length (G.map (·.val)))
      case atStart => exact ⟨0, _, rfl, Nat.zero_le _, rfl, hB4, hrow4⟩
      case round =>
        clear hB4 hrow4
        obtain ⟨j, F, rfl, hj, rfl, hBy, hrow⟩ := hrel
        by_cases hjl : j < G.length
        · obtain ⟨e, he⟩ : ∃ e, G[j]? = some e := ⟨G[j], by simp [hjl]⟩
          have heG : e ∈ G := List.mem_of_getElem? he
          obtain ⟨hees, hide⟩ := (hGot.mem e).1 heG
          have hSti := keep _ hBy.since
          obtain ⟨⟨ax, ay⟩, be, hkey, hz1, hz2, _, hval, hblk⟩ := hSti.kid e hees
          have hay : ay = id := by rw [ident_eq hkey] at hide; exact hide
          obtain ⟨q1, q2⟩ := kid_cells hblk
          have cj : wr.cell? ⟨g, j, none⟩ = some (.pointer (some ⟨be, 0, none⟩)) := by
            have := hrow.cells (g := g) rfl j e.val (by simp [he])
            rw [hval] at this
            rw [add_plain, Nat.zero_add] at this
            exact this
          have hlook : ∀ W : World, W.heap[w.heap.size]? = wr.heap[w.heap.size]? → (Instr.lookup 33 (.map (some w.heap.size)) (.agg #[.string ax, .string ay]) false).run Try.prog W = .ok (.pointer (some ⟨be, 0, none⟩)) W := fun W hW => by
            have := (MapAt.mk (hW.trans hSti.map.blk) hSti.map.stamped hSti.map.keys).look_in nm_keyed Try.underlying33 hees
            rw [hkey, hval] at this
            exact this
          obtain ⟨kl, hkl⟩ := nm_key (ax, ay) hz1 hz2
          have hnone : F (ax, ay) = none := by
            cases hF : F (ax, ay) with
            | none => rfl
            | some v =>
              obtain ⟨i, e', hi, he', hp⟩ := hBy.snd _ _ hF
              have hm' := ((hGot.mem e').1 (List.mem_of_getElem? he')).1
              obtain ⟨a', _, hk', _⟩ := hSti.kid e' hm'
              rw [nameOf_eq hk'] at hp
              have ee := hSti.map.one hm' hees (by rw [hk', hkey, ← hp])
              subst ee
              have := (List.getElem?_inj (by omega) hGot.nodup).1 (he'.trans he.symm)
              omega
          have hlf := hBy.tab.look nm_inj nm_keyed Try.underlying33 (Try.zero37 _) (ax, ay) hkl
          simp only [hnone, Option.getD_none, nm] at hlf
          have tj : (j : Int) < (G.length : Int) := by omega
          have hid2 : id = ay := hay.symm
          have hneq := fun (w : World) (a : Addr) => Lib.run_neq_ptr_same (P := Try.prog) w (tp := 37) a Try.underlying37 hi57
          clear hide hay heG
          subst hid2
          go_wp2_with fail
          refine (child_any N w.heap.size ax id _ wr hSti.parCell hlook hSti.map.lt).mono ?_
          rintro e1 w5 ⟨rfl, hg5⟩
          have hS5 := hBy.since.grown hg5 (fun j hj => by cases hj)
          have hT5 := hBy.tab.kept hg5 (by simp)
          obtain ⟨_, be5, hkey5, _, _, _, hval5, hblk5⟩ := (keep _ hS5).kid e hees
          have eb : be5 = be := by rw [hval] at hval5; injection hval5 with h; injection h with h; injection h with h; exact h.symm
          have ea := nm_inj _ _ (hkey5.symm.trans hkey)
          subst ea
          subst eb
          clear hkey5 hval5
          obtain ⟨p1', p2'⟩ := kid_cells hblk5
          obtain ⟨w6, hst6, hT6, hg6, _⟩ := hT5.store nm_inj nm_keyed Try.underlying33 (ax, id) (.pointer (some ⟨be5, 0, none⟩)) hkl
          simp only [nm] at hst6
          have hrow6 := (hrow.kept hg5 (Or.inr (fun e => by cases (show some g = none from e)))).kept hg6 (Or.inr (fun e1 => by have e2 := Option.some.inj e1; simp at e2; omega))
          have hB6 : ByName W0 w6 bB G (j + 1) (fun a' => if a' = (ax, id) then some (.pointer (some ⟨be5, 0, none⟩)) else F a') := by
            refine ⟨hS5.grown hg6 (fun i hi => by cases hi; exact Or.inr (Or.inl rfl)), hT6, fun i e' hi he' => ?_, fun a v h => ?_⟩
            · by_cases hij : i = j
              · subst hij
                rw [he] at he'
                cases he'
                show (if _ = _ then _ else _) = _
                rw [if_pos (nameOf_eq hkey), hval]
              · have h1 := hBy.fst i e' (by omega) he'
                show (if _ = _ then _ else _) = _
                rw [if_neg (fun e1 => ?_), h1]
                rw [e1, hnone] at h1
                cases h1
            · have h : (if a = (ax, id) then some (.pointer (some ⟨be5, 0, none⟩)) else F a) = some v := h
              by_cases ha : a = (ax, id)
              · exact ⟨j, e, by omega, he, ha.trans (nameOf_eq hkey).symm⟩
              · rw [if_neg ha] at h
                obtain ⟨i, e', hi, he', hp⟩ := hBy.snd a v h
                exact ⟨i, e', by omega, he', hp⟩
          clear hkey hval hblk hnone hees he hlook hlf hBy hblk5
          go_wp2
          go_roundg (G.length - (j + 1))
          case rel => exact ⟨j + 1, _, rfl, by omega, by go_num, hB6, hrow6⟩
          case measure => omega
        · have ej : j = G.length := by omega
          have tj : ¬ (j : Int) < (G.length : Int) := by omega
          have hFil := (ej ▸ hBy : ByName W0 wr bB G G.length F).filled hkk hGot.mem
          clear ej hBy hrow
          go_wp2
          go_loopg [15] m (fun gg ii wi => ∃ i : Nat, gg = m - i ∧ i ≤ m ∧ ii = .int .i64 (i : Int) ∧ Filled W0 wi bB es id F)
          case atStart => exact ⟨0, rfl, Nat.zero_le _, rfl, hFil⟩
          case round =>
            clear hFil
            obtain ⟨i, rfl, hi, rfl, hFil⟩ := hrel
            by_cases him : i < m
            · have hSti := keep _ hFil.since
              obtain ⟨x, hx, hkey⟩ := hSti.all i him
              obtain ⟨a', be, hk', hz1, hz2, _, hval, hblk⟩ := hSti.kid x hx
              have ea : a' = (s i, t i) := nm_inj _ _ (hk'.symm.trans hkey)
              subst ea
              clear hk'
              have c0 := hSti.row.cell (i := i * 2) (by omega)
              have c1 := hSti.row.cell (i := i * 2 + 1) (by omega)
              rw [(hSti.names i him).1] at c0
              rw [(hSti.names i him).2] at c1
              have hlook : ∀ W : World, W.heap[w.heap.size]? = wr.heap[w.heap.size]? → (Instr.lookup 33 (.map (some w.heap.size)) (.agg #[.string (s i), .string (t i)]) false).run Try.prog W = .ok (.pointer (some ⟨be, 0, none⟩)) W := fun W hW => by
                have := (MapAt.mk (hW.trans hSti.map.blk) hSti.map.stamped hSti.map.keys).look_in nm_keyed Try.underlying33 hx
                rw [hkey, hval] at this
                exact this
              have ti : (i : Int) < (m : Int) := by omega
              go_wp2_with fail
              refine (child_any N w.heap.size (s i) (t i) _ wr hSti.parCell hlook hSti.map.lt).mono ?_
              rintro e w5 ⟨rfl, hg5⟩
              have hFil5 := hFil.kept hg5
              have hSt5 := keep _ hFil5.since
              have d0 := hSt5.row.cell (i := i * 2) (by omega)
              have d1 := hSt5.row.cell (i := i * 2 + 1) (by omega)
              rw [(hSt5.names i him).1] at d0
              rw [(hSt5.names i him).2] at d1
              have hl5 := hlook w5 (by rw [hSt5.map.blk, hSti.map.blk])
              have hneq := fun (w : World) (a : Addr) => Lib.run_neq_ptr_same (P := Try.prog) w (tp := 37) a Try.underlying37 hi57
              have heql := fun (w : World) (a : Addr) => run_eql_ptr_same (P := Try.prog) w (tp := 37) a Try.underlying37 hi57
              have henil := fun (w : World) (a : Addr) => run_eql_nil_ptr (P := Try.prog) w (tp := 37) a Try.underlying37
              obtain ⟨kl, hkl⟩ := nm_key (s i, t i) (hs i) (ht i)
              have hlb : ∀ n, (Instr.lookup 33 (.map (some bB)) (.agg #[.string (s i), .string (t i)]) false).run Try.prog (w5.drewN n) = .ok ((F (s i, t i)).getD (.pointer none)) (w5.drewN n) := fun n =>
                (hFil5.tab.kept (w' := w5.drewN n) (row := none) ⟨rfl, rfl, rfl, Nat.le_refl _, fun _ _ _ => rfl⟩ (by simp)).look nm_inj nm_keyed Try.underlying33 (Try.zero37 _) (s i, t i) hkl
              have hF1 := hFil.fst x hx
              rw [nameOf_eq hkey, ident_eq hkey, hval] at hF1
              have hF2 := hFil.snd (s i, t i)
              clear hlook hkey hval hblk hx hkl c0 c1
              by_cases hq : t i = id
              · have hF1 := hF1 hq
                simp only [hF1, Option.getD_some] at hlb
                clear hF1
                subst hq
                go_wp2
                go_quiet (fail)
                go_wp2
                go_roundg (m - (i + 1))
                case rel => exact ⟨i + 1, rfl, by omega, by go_num, ⟨hFil5.since.os, hFil5.since.tape, hFil5.since.output, hFil5.since.size, hFil5.since.block⟩, hFil5.tab.kept (row := none) ⟨rfl, rfl, rfl, Nat.le_refl _, fun _ _ _ => rfl⟩ (by simp), hFil5.fst, hFil5.snd⟩
                case measure => omega
              · have hF2 := hF2 hq
                simp only [hF2, Option.getD_none] at hlb
                clear hF2
                have hq' := str_ne hq
                go_wp2
                go_quiet (fail)
                go_wp2
                go_roundg (m - (i + 1))
                case rel => exact ⟨i + 1, rfl, by omega, by go_num, ⟨hFil5.since.os, hFil5.since.tape, hFil5.since.output, hFil5.since.size, hFil5.since.block⟩, hFil5.tab.kept (row := none) ⟨rfl, rfl, rfl, Nat.le_refl _, fun _ _ _ => rfl⟩ (by simp), hFil5.fst, hFil5.snd⟩
                case measure => omega
            · have ti : ¬ (i : Int) < (m : Int) := by omega
              have hend := hfin _ hFil.since
              go_wp2
              go_ret
              exact ⟨rfl, hend⟩

end Go.Proofs.Qxb6608866a
