import Derived.Test.Qxb6608866aStage
import Derived.Test.Qxb6608866aBytesP
import Derived.Deep.LoopGhost
import Derived.LaidEqlPtr
import Derived.Lib.Builder
namespace Go.Proofs.Qxb6608866a
open Go.RowKit Go.Deep Go.MapKept
open Go.WideShapes (add_plain)
open Go.Maps (Keyed)
set_option maxRecDepth 100000
set_option maxHeartbeats 2000000

/-- The outer loop of the partition law, A asked so far. -/
structure Part (w0 wr : World) (ba bf : Nat) (A : List ByteArray) (Fd : List (ByteArray × ByteArray)) : Prop where
  since : Since2 w0 wr ba bf
  asked : Tab Try.prog 9 st wr ba (setF A)
  found : Tab Try.prog 42 nm wr bf (setF Fd)

theorem Tab.notCells {α : Type} {P : Program} {k : TypeId} {mk : α → Value} {w : World} {b : Nat} {F : α → Option Value} (h : Tab P k mk w b F) : ∀ cs ty fr, w.heap[b]? ≠ some (.cells cs ty fr) := by
  obtain ⟨es, clock, h, _⟩ := h
  intro cs ty fr e
  rw [h.blk] at e
  cases e

theorem Stage.alloc {w0 : World} {bm bk bn m : Nat} {s t : Nat → ByteArray} {es : Array MapEntry} {clock : Nat} {f : Nat → Value} (h : Stage w0 bm bk bn m s t es clock f) (o : Obj) : Stage (w0.alloc o) bm bk bn m s t es clock f := by
  have hg := World.grownBy_alloc w0 o none
  have old : ∀ (b : Nat) (x : Obj), w0.heap[b]? = some x → (w0.alloc o).heap[b]? = some x := fun b x hb => ((MapKept.heap_alloc w0 o).2 b (Array.getElem?_eq_some_iff.1 hb).1).trans hb
  refine ⟨h.map.kept hg (by simp), fun x hx => ?_, old _ _ h.par, h.row.alloc _, h.names, h.size, h.all⟩
  obtain ⟨a, be, h1, h2, h3, h4, h5, h6⟩ := h.kid x hx
  exact ⟨a, be, h1, h2, h3, h4, h5, old _ _ h6⟩

theorem part_top (a0 : Option Addr) (b0 off0 n0 cap0 : Nat) (ha0 : 0 < n0 → a0 = some ⟨b0, off0, none⟩) (s : Nat → ByteArray) (a1 : Option Addr) (b1 off1 n1 cap1 : Nat) (ha1 : 0 < n1 → a1 = some ⟨b1, off1, none⟩) (t : Nat → ByteArray) (id : ByteArray) (w : World)
    (hS : Strs w b0 off0 n0 s) (hT : Strs w b1 off1 n1 t) (hn0 : n0 ≤ maxLen) (hn1 : n1 ≤ maxLen) (hs : ∀ i, (s i).size ≤ maxLen) (ht : ∀ i, (t i).size ≤ maxLen) (hid : id.size ≤ maxLen) :
    Calls Try.prog 5 #[.slice a0 n0 cap0, .slice a1 n1 cap1, .string id] w fun e w' => e = .returned (.bool true) ∧ Below w.heap.size w w' := by
  have hn0' := hn0
  have hn1' := hn1
  have hid' := hid
  unfold maxLen at hn0' hn1' hid'
  obtain ⟨i57, hi57⟩ : ∃ i, Try.prog.info? 57 = some i := ⟨_, rfl⟩
  go_enter Try.func5, Try.ntmps5
  go_wp2_with fail
  refine (bytes17_any a0 b0 off0 n0 cap0 ha0 s a1 b1 off1 n1 cap1 ha1 t id w hS hT hn0 hn1 hs ht hid).mono ?_
  rintro e w1 ⟨⟨xb, rfl⟩, rfl⟩
  cases xb with
  | false =>
    go_wp2
    go_ret
    exact ⟨rfl, Below.refl _ _⟩
  | true =>
    by_cases c0 : n0 ≤ 1024
    case neg =>
      have c0' : (1024 : Int) < (n0 : Int) := by omega
      go_wp2
      go_ret
      exact ⟨rfl, Below.refl _ _⟩
    have c0' : ¬ (1024 : Int) < (n0 : Int) := by omega
    by_cases c1 : n1 ≤ 1024
    case neg =>
      have c1' : (1024 : Int) < (n1 : Int) := by omega
      go_wp2
      go_ret
      exact ⟨rfl, Below.refl _ _⟩
    have c1' : ¬ (1024 : Int) < (n1 : Int) := by omega
    by_cases c2 : id.size ≤ 1048576
    case neg =>
      have c2' : (1048576 : Int) < (id.size : Int) := by omega
      go_wp2
      go_ret
      exact ⟨rfl, Below.refl _ _⟩
    have c2' : ¬ (1048576 : Int) < (id.size : Int) := by omega
    go_wp2_with fail
    refine (budget_any a0 b0 off0 n0 cap0 ha0 s _ w hS hn0 hs (by omega) (by omega)).mono ?_
    rintro e w1 ⟨⟨r, hr0, hr1, rfl⟩, rfl⟩
    by_cases r0 : r < 0
    · go_wp2
      go_ret
      exact ⟨rfl, Below.refl _ _⟩
    go_wp2_with fail
    refine (budget_any a1 b1 off1 n1 cap1 ha1 t _ w hT hn1 ht (by omega) (by omega)).mono ?_
    rintro e w1 ⟨⟨r', hr0', hr1', rfl⟩, rfl⟩
    by_cases r0' : r' < 0
    · go_wp2
      go_ret
      exact ⟨rfl, Below.refl _ _⟩
    go_wp2_with fail
    refine (build_any a0 b0 off0 n0 cap0 ha0 s a1 b1 off1 n1 cap1 ha1 t w hS hT (by omega) (by omega) hs ht).mono ?_
    rintro e w1 ⟨m, es, clock, f, hm, ⟨hm0, hm1⟩, rfl, hB⟩
    go_wp2_with fail
    refine (par_any w.heap.size w1).mono ?_
    rintro e w2 ⟨rfl, rfl⟩
    have hSt := Stage.of hB hs ht
    have hbel : Below w.heap.size w w1 := (Below.refl _ _).grown hB.grown (Nat.le_refl _) (fun j hj => by cases hj)
    have hsz1 := hB.heap
    clear hB hS hT ha0 ha1
    have hmm39 := fun n w => run_makeMap_hint (P := Try.prog) 39 9 4 Try.underlying39 .i64 n w
    have hmm40 := fun n w => run_makeMap_hint (P := Try.prog) 40 42 4 Try.underlying40 .i64 n w
    go_wp2_with (first
      | (at_len; refine wpList_len_map _ rfl _ 33 rfl 42 37 Try.underlying33 w.heap.size es clock rfl (hSt.map.kept (World.grownBy_alloc _ _ none) (by simp)).blk ?_)
      | go_in)
    have hSt0 : Stage (((w1.alloc (parObj w.heap.size)).alloc (.map #[] 0)).alloc (.map #[] 0)) w.heap.size (w.heap.size + 1) w1.heap.size m s t es clock f := (hSt.alloc _).alloc _
    have hA0 : Tab Try.prog 9 st (((w1.alloc (parObj w.heap.size)).alloc (.map #[] 0)).alloc (.map #[] 0)) (w1.heap.size + 1) (setF []) := by
      have := (Tab.made Try.prog 9 st (w1.alloc (parObj w.heap.size))).kept (World.grownBy_alloc _ (.map #[] 0) none) (by simp)
      rw [setF_nil] at this
      simpa using this
    have hF0 : Tab Try.prog 42 nm (((w1.alloc (parObj w.heap.size)).alloc (.map #[] 0)).alloc (.map #[] 0)) (w1.heap.size + 1 + 1) (setF []) := by
      have := Tab.made Try.prog 42 nm ((w1.alloc (parObj w.heap.size)).alloc (.map #[] 0))
      rw [setF_nil] at this
      simpa using this
    have hbel0 : Below w.heap.size w (((w1.alloc (parObj w.heap.size)).alloc (.map #[] 0)).alloc (.map #[] 0)) := ((hbel.alloc (by omega) _).alloc (by simp; omega) _).alloc (by simp; omega) _
    obtain ⟨W0, hW0⟩ : ∃ W0, Hid ((((w1.alloc (parObj w.heap.size)).alloc (.map #[] 0)).alloc (.map #[] 0)) = W0) := ⟨_, rfl⟩
    have hW0' := hW0.out
    rw [hW0'] at hSt0 hA0 hF0 hbel0 ⊢
    have hsz0 : W0.heap.size = w1.heap.size + 3 := by rw [← hW0']; simp
    clear hW0' hW0 hSt hbel
    generalize w1.heap.size = N at *
    have kA := hA0.notCells
    have kF := hF0.notCells
    have keep : ∀ wr, Since2 W0 wr (N + 1) (N + 1 + 1) → Stage wr w.heap.size (w.heap.size + 1) N m s t es clock f := fun wr hsn => hSt0.kept hsn (by omega) (by omega) kA kF
    have hsz0' : N + 3 ≤ W0.heap.size := by omega
    have hst := hSt0.map.stamped
    have hkk := hSt0.kidKey
    have hes : es.size ≤ 65536 := Nat.le_trans hSt0.size hm
    have hall : ∀ A : List ByteArray, (∀ i, i < m → t i ∈ A) → cnt es A = es.size := fun A hA => cnt_all (fun e he => by
      obtain ⟨a, be, h1, _, _, ⟨i, hi, rfl⟩, _⟩ := hSt0.kid e he
      rw [ident_eq h1]
      exact hA i hi)
    clear kA kF hsz0 hSt0
    go_loopg [13, 14] (m + 1) (fun g tot q wr => ∃ (k : Nat) (A : List ByteArray) (Fd : List (ByteArray × ByteArray)), g = m + 1 - k ∧ k ≤ m + 1 ∧ q = .int .i64 (k : Int) ∧ tot = .int .i64 ((cnt es A : Nat) : Int) ∧ Part W0 wr (N + 1) (N + 1 + 1) A Fd ∧ (∀ p ∈ Fd, p.2 ∈ A) ∧ (∀ i, i < m → i < k → t i ∈ A))
    case atStart => exact ⟨0, [], [], rfl, Nat.zero_le _, rfl, by rw [cnt_nil]; rfl, ⟨Since2.refl _ _ _, hA0, hF0⟩, by simp, fun i _ hi => absurd hi (Nat.not_lt_zero _)⟩
    case round =>
      clear hA0 hF0
      obtain ⟨k, A, Fd, rfl, hk, rfl, rfl, hP, hin, hask⟩ := hrel
      have hStr := keep _ hP.since
      by_cases hkm : k ≤ m
      case neg =>
        have e0 := hall A (fun i hi => hask i hi (by omega))
        have hmb := hStr.map.blk
        have hfin := Since2.below hbel0 hP.since (by omega) (by omega) (by omega)
        have hcl : cnt es A ≤ m := by rw [e0]; exact hStr.size
        have tt : ¬ (k : Int) ≤ (m : Int) := by omega
        go_wp2_with (first
          | (at_len; refine wpList_len_map _ rfl _ 33 rfl 42 37 Try.underlying33 w.heap.size es clock rfl hmb ?_)
          | go_in)
        go_ret
        exact ⟨by simp, hfin⟩
      · obtain ⟨x, hx1, hx2, hxs⟩ : ∃ x : ByteArray, (k < m → t k = x) ∧ (¬ k < m → id = x) ∧ x.size ≤ maxLen := by
          by_cases h : k < m
          · exact ⟨t k, fun _ => rfl, fun h' => absurd h h', ht k⟩
          · exact ⟨id, fun h' => absurd h' h, fun _ => rfl, hid⟩
        obtain ⟨kl, hkl⟩ := st_key x hxs
        have hask' : ∀ A' : List ByteArray, x ∈ A' → (∀ y ∈ A, y ∈ A') → ∀ i, i < m → i < k + 1 → t i ∈ A' := fun A' hxA hsub i hi hik => by
          by_cases e : i = k
          · subst e; rw [hx1 hi]; exact hxA
          · exact hsub _ (hask i hi (by omega))
        have tt : (k : Int) ≤ (m : Int) := by omega
        have hlk := hP.asked.look st_inj st_keyed Try.underlying39 (Try.zero4 wr) x hkl
        by_cases hxA : x ∈ A
        · rw [setF_in hxA] at hlk
          unfold st at hlk
          have hnext : ∀ i, i < m → i < k + 1 → t i ∈ A := hask' A hxA (fun _ h => h)
          by_cases hlt : k < m
          · have e1 := hx1 hlt
            have t1 : (k : Int) < (m : Int) := by omega
            have c1 := hStr.row.cell (i := k * 2 + 1) (by omega)
            rw [(hStr.names k hlt).2, e1] at c1
            clear hx1 hx2 hask hask' hall keep hkk
            go_wp2
            go_roundg (m + 1 - (k + 1))
            case rel => exact ⟨k + 1, A, Fd, rfl, by omega, by go_num, rfl, hP, hin, hnext⟩
            case measure => omega
          · have e1 : x = id := (hx2 hlt).symm
            subst e1
            have t1 : ¬ (k : Int) < (m : Int) := by omega
            clear hx1 hx2 hask hask' hall keep hkk
            go_wp2
            go_roundg (m + 1 - (k + 1))
            case rel => exact ⟨k + 1, A, Fd, rfl, by omega, by go_num, rfl, hP, hin, hnext⟩
            case measure => omega
        · rw [setF_out hxA] at hlk
          unfold st at hlk
          obtain ⟨w2, hst2, hA2, hg2, hsz2⟩ := hP.asked.store st_inj st_keyed Try.underlying39 x (.bool true) hkl
          rw [setF_cons] at hA2
          unfold st at hst2
          have hF2 := hP.found.kept hg2 (by simp)
          have hS2 := hP.since.grown hg2 (fun j hj => by cases hj; exact Or.inr (Or.inl rfl))
          clear hsz2
          have hSt2 := keep _ hS2
          have hnext : ∀ i, i < m → i < k + 1 → t i ∈ x :: A := hask' (x :: A) (by simp) (fun _ h => by simp [h])
          have hin' : ∀ p ∈ Fd, p.2 ∈ x :: A := fun p hp => by simp [hin p hp]
          clear hask hask'
          rcases Nat.lt_or_ge k m with hlt | hlt
          case' inl =>
            have e1 := hx1 hlt
            have t1 : (k : Int) < (m : Int) := by omega
            have c1 := hStr.row.cell (i := k * 2 + 1) (by omega)
            rw [(hStr.names k hlt).2, e1] at c1
            clear hx1 hx2
            go_wp2_with fail
          case' inr =>
            have e1 : x = id := (hx2 (by omega)).symm
            subst e1
            have t1 : ¬ (k : Int) < (m : Int) := by omega
            clear hx1 hx2
            go_wp2_with fail
          all_goals
            refine (named_any N w.heap.size x es clock w2 hSt2.parCell hSt2.map.blk hst hkk hes).mono ?_
            rintro e w3 ⟨v, G, rfl, hGot⟩
            have hS3 := hS2.grown hGot.grown (fun j hj => by cases hj)
            have hA3 := hA2.kept hGot.grown (by simp)
            have hF3 := hF2.kept hGot.grown (by simp)
            have hcs := cnt_step hst hxA hGot.nodup hGot.mem
            have hcl : cnt es A ≤ 65536 := Nat.le_trans (cnt_le es A) hes
            have hGl : G.length ≤ 65536 := by have := cnt_le es (x :: A); omega
            by_cases hnil : G = []
            · have hv := hGot.nil hnil
              subst hv
              subst hnil
              go_wp2
              go_loopg [17] 0 (fun g jj wi => jj = .int .i64 0 ∧ wi = w3)
              case atStart => exact ⟨rfl, rfl⟩
              case round =>
                obtain ⟨rfl, rfl⟩ := hrel
                go_wp2
                go_roundg (m + 1 - (k + 1))
                case rel => exact ⟨k + 1, x :: A, Fd, rfl, by omega, by go_num, by rw [hcs]; rfl, ⟨hS3, hA3, hF3⟩, hin', hnext⟩
                case measure => omega
            · obtain ⟨g, cap, hv, hgl⟩ : ∃ g cap, v = .slice (some ⟨g, 0, none⟩) G.length cap ∧ W0.heap.size ≤ g := by
                rcases hGot.row.2 with ⟨_, h2⟩ | ⟨g, cap, cur, h1, h2, _⟩
                · exact absurd (List.eq_nil_of_length_eq_zero h2) hnil
                · exact ⟨g, cap, h1, by have := hS2.size; omega⟩
              subst hv
              have hpos : 0 < G.length := List.length_pos_iff.2 hnil
              have p1 : ((G.length : Int) == 0) = false := by simp [hnil]
              go_wp2
              go_loopg [17] G.length (fun gg jj wi => ∃ (j : Nat) (L : List (ByteArray × ByteArray)), gg = G.length - j ∧ j ≤ G.length ∧ jj = .int .i64 (j : Int) ∧ Part W0 wi (N + 1) (N + 1 + 1) (x :: A) L ∧ wi.ownsRow (w2.heap.size + 1) 37 1 (.slice (some ⟨g, 0, none⟩) G.length cap) G.length (G.map (·.val)) ∧ (∀ p, p ∈ L ↔ (p ∈ Fd ∨ ∃ i e, i < j ∧ G[i]? = some e ∧ p = nameOf e)))
              case atStart => exact ⟨0, Fd, rfl, Nat.zero_le _, rfl, ⟨hS3, hA3, hF3⟩, hGot.row, by simp⟩
              case round =>
                obtain ⟨j, L, rfl, hj, rfl, hPi, hrow, hL⟩ := hrel
                by_cases hjl : j < G.length
                · obtain ⟨e, he⟩ : ∃ e, G[j]? = some e := ⟨G[j], by simp [hjl]⟩
                  have heG : e ∈ G := List.mem_of_getElem? he
                  obtain ⟨hees, hide⟩ := (hGot.mem e).1 heG
                  have hSti := keep _ hPi.since
                  obtain ⟨⟨ax, ay⟩, be, hkey, hz1, hz2, _, hval, hblk⟩ := hSti.kid e hees
                  have hay : x = ay := by rw [ident_eq hkey] at hide; exact hide.symm
                  subst hay
                  obtain ⟨q1, q2⟩ := kid_cells hblk
                  have cj : wr.cell? ⟨g, j, none⟩ = some (.pointer (some ⟨be, 0, none⟩)) := by
                    have := hrow.cells (g := g) rfl j e.val (by simp [he])
                    rw [hval] at this
                    rw [add_plain, Nat.zero_add] at this
                    exact this
                  have hlm := hSti.map.look_in nm_keyed Try.underlying33 hees
                  rw [hkey, hval] at hlm
                  obtain ⟨kl2, hkl2⟩ := nm_key (ax, x) hz1 hz2
                  have hnL : (ax, x) ∉ L := by
                    rw [hL]
                    rintro (h | ⟨i, e', hi, he', hp⟩)
                    · exact hxA (hin _ h)
                    · have hm' := ((hGot.mem e').1 (List.mem_of_getElem? he')).1
                      obtain ⟨a', _, hk', _⟩ := hSti.kid e' hm'
                      rw [nameOf_eq hk'] at hp
                      have ee := hSti.map.one hm' hees (by rw [hk', hkey, ← hp])
                      subst ee
                      have := (List.getElem?_inj (by omega) hGot.nodup).1 (he'.trans he.symm)
                      omega
                  have hlf := hPi.found.look nm_inj nm_keyed Try.underlying40 (Try.zero4 _) (ax, x) hkl2
                  rw [setF_out hnL] at hlf
                  obtain ⟨w5, hst5, hF5, hg5, _⟩ := hPi.found.store nm_inj nm_keyed Try.underlying40 (ax, x) (.bool true) hkl2
                  rw [setF_cons] at hF5
                  simp only [nm] at hlm hlf hst5
                  have hP5 : Part W0 w5 (N + 1) (N + 1 + 1) (x :: A) ((ax, x) :: L) := ⟨hPi.since.grown hg5 (fun i hi => by cases hi; exact Or.inr (Or.inr rfl)), hPi.asked.kept hg5 (by simp), hF5⟩
                  have hrow5 := hrow.kept hg5 (Or.inr (fun e1 => by have := hPi.since.size; have e2 := Option.some.inj e1; simp at e2; omega))
                  have hL5 : ∀ p, p ∈ (ax, x) :: L ↔ (p ∈ Fd ∨ ∃ i e, i < j + 1 ∧ G[i]? = some e ∧ p = nameOf e) := fun p => by
                    rw [List.mem_cons, hL]
                    constructor
                    · rintro (rfl | h | ⟨i, e', hi, he', hp⟩)
                      · exact Or.inr ⟨j, e, by omega, he, (nameOf_eq hkey).symm⟩
                      · exact Or.inl h
                      · exact Or.inr ⟨i, e', by omega, he', hp⟩
                    · rintro (h | ⟨i, e', hi, he', hp⟩)
                      · exact Or.inr (Or.inl h)
                      · by_cases hij : i = j
                        · subst hij
                          rw [he] at he'
                          cases he'
                          exact Or.inl (hp.trans (nameOf_eq hkey))
                        · exact Or.inr (Or.inr ⟨i, e', by omega, he', hp⟩)
                  have tj : (j : Int) < (G.length : Int) := by omega
                  clear hkey hval hblk hL hnL hees hide he heG
                  have hneq := fun (w : World) (a : Addr) => Lib.run_neq_ptr_same (P := Try.prog) w (tp := 37) a Try.underlying37 hi57
                  go_wp2
                  go_roundg (G.length - (j + 1))
                  case rel => exact ⟨j + 1, (ax, x) :: L, rfl, by omega, by go_num, hP5, hrow5, hL5⟩
                  case measure => omega
                · have ej : j = G.length := by omega
                  have tj : ¬ (j : Int) < (G.length : Int) := by omega
                  have hinL : ∀ p ∈ L, p.2 ∈ x :: A := fun p hp => by
                    rcases (hL p).1 hp with h | ⟨i, e', hi, he', hp'⟩
                    · exact hin' p h
                    · obtain ⟨hm', hid'⟩ := (hGot.mem e').1 (List.mem_of_getElem? he')
                      obtain ⟨a', _, hk', _⟩ := (keep _ hPi.since).kid e' hm'
                      rw [hp', nameOf_eq hk', ← ident_eq hk', hid']
                      simp
                  clear ej hL
                  go_wp2
                  go_roundg (m + 1 - (k + 1))
                  case rel => exact ⟨k + 1, x :: A, L, rfl, by omega, by go_num, by rw [hcs]; simp, hPi, hinL, hnext⟩
                  case measure => omega

end Go.Proofs.Qxb6608866a
