import Derived.Test.Qxb6608866aBase
import Derived.Maps.RangeWalk
import Derived.DeepKeys4
namespace Go.Proofs.Qxb6608866a
open Go.RowKit Go.Deep Go.MapKept
open Go.ChangeMaps (setBlock heap_setBlock_same heap_setBlock_other modify_eq_set)
open Go.Maps (Keyed)

/-- Block b is a map of the entries es. -/
structure MapAt (P : Program) (k : TypeId) (w : World) (b : Nat) (es : Array MapEntry) (clock : Nat) : Prop where
  blk : w.heap[b]? = some (.map es clock)
  stamped : Stamped es clock
  keys : ∀ e ∈ es.toList, ∃ l, keyOf P k e.key = some l

theorem MapAt.lt {P : Program} {k : TypeId} {w : World} {b : Nat} {es : Array MapEntry} {clock : Nat} (h : MapAt P k w b es clock) : b < w.heap.size := (Array.getElem?_eq_some_iff.1 h.blk).1

theorem MapAt.kept {P : Program} {k : TypeId} {w w' : World} {b : Nat} {es : Array MapEntry} {clock : Nat} {row : Option Nat} (h : MapAt P k w b es clock) (hg : w.grownBy w' row) (hne : some b ≠ row) : MapAt P k w' b es clock :=
  ⟨(hg.block b h.lt hne).trans h.blk, h.stamped, h.keys⟩

theorem MapAt.drew {P : Program} {k : TypeId} {w : World} {b : Nat} {es : Array MapEntry} {clock : Nat} (h : MapAt P k w b es clock) : MapAt P k w.drew b es clock := ⟨h.blk, h.stamped, h.keys⟩

theorem MapAt.made (P : Program) (k : TypeId) (w : World) : MapAt P k (w.alloc (.map #[] 0)) w.heap.size #[] 0 :=
  ⟨(MapKept.heap_alloc w _).1, stamped_empty 0, by simp⟩

/-- No two entries bear one key. -/
theorem MapAt.one {P : Program} {k : TypeId} {w : World} {b : Nat} {es : Array MapEntry} {clock : Nat} (h : MapAt P k w b es clock) {x y : MapEntry} (hx : x ∈ es.toList) (hy : y ∈ es.toList) (e : x.key = y.key) : x = y :=
  entry_eq_of_key ((stamped_iff es clock).1 h.stamped).2.2 hx hy e

/-- 'm[k]', the key there. -/
theorem MapAt.look_in {P : Program} {k t e : TypeId} {w : World} {b : Nat} {es : Array MapEntry} {clock : Nat} (h : MapAt P k w b es clock) (K : Keyed P k) (ht : P.underlying t = some (.map k e)) {x : MapEntry} (hx : x ∈ es.toList) :
    (Instr.lookup t (.map (some b)) x.key false).run P w = .ok x.val w := by
  obtain ⟨l, hkey⟩ := h.keys x hx
  rcases K.find w hkey es.toList h.keys with ⟨_, h2⟩ | ⟨j, e0, h1, h2, h3⟩
  · exact absurd rfl (h2 x hx)
  · have e1 := h.one (List.mem_of_getElem? h2) hx h3
    subst e1
    simp [Instr.lookup, run_underlying ht, MapKept.run_getObj_map h.blk, K.check w _ hkey, h1, Result.andThen]

/-- 'm[k]', the key not there. -/
theorem MapAt.look_out {P : Program} {k t e : TypeId} {w : World} {b : Nat} {es : Array MapEntry} {clock : Nat} (h : MapAt P k w b es clock) (K : Keyed P k) (ht : P.underlying t = some (.map k e)) {z : Value} (hz : (zeroValue e).run P w = .ok z w)
    {key : Value} {kl : Lit} (hkey : keyOf P k key = some kl) (hno : ∀ x ∈ es.toList, x.key ≠ key) :
    (Instr.lookup t (.map (some b)) key false).run P w = .ok z w := by
  rcases K.find w hkey es.toList h.keys with ⟨h1, h2⟩ | ⟨j, e0, h1, h2, h3⟩
  · simp [Instr.lookup, run_underlying ht, MapKept.run_getObj_map h.blk, K.check w _ hkey, h1, hz, Result.andThen]
  · exact absurd h3 (hno e0 (List.mem_of_getElem? h2))

/-- 'm[k] = v'. -/
theorem MapAt.store {P : Program} {k t e : TypeId} {w : World} {b : Nat} {es : Array MapEntry} {clock : Nat} (h : MapAt P k w b es clock) (K : Keyed P k) (ht : P.underlying t = some (.map k e)) {key val : Value} {kl : Lit} (hkey : keyOf P k key = some kl) :
    ∃ es' clock' w', (Instr.mapUpdate t (.map (some b)) key val).run P w = .ok () w' ∧ MapAt P k w' b es' clock' ∧ w.grownBy w' (some b) ∧ w'.heap.size = w.heap.size ∧ es'.size ≤ es.size + 1 ∧
      (∀ x ∈ es'.toList, (x ∈ es.toList ∧ x.key ≠ key) ∨ (x.key = key ∧ x.val = val)) ∧ (∀ x ∈ es.toList, x.key ≠ key → x ∈ es'.toList) ∧ (∃ x ∈ es'.toList, x.key = key ∧ x.val = val) := by
  have hb := h.blk
  have grown : ∀ o, w.grownBy (setBlock w b o) (some b) := fun o => ⟨rfl, rfl, rfl, by simp [setBlock], fun i _ hi => heap_setBlock_other hb _ (fun e => hi (by rw [e]))⟩
  have size : ∀ o, (setBlock w b o).heap.size = w.heap.size := fun o => by simp [setBlock]
  rcases K.find w hkey es.toList h.keys with ⟨h1, h2⟩ | ⟨j, e0, h1, h2, h3⟩
  · refine ⟨es.push ⟨key, val, clock⟩, clock + 1, setBlock w b (.map (es.push ⟨key, val, clock⟩) (clock + 1)), ?_, ⟨heap_setBlock_same hb _, stamped_push h.stamped h2, ?_⟩, grown _, size _, by simp, ?_, ?_, ?_⟩
    · simp [Instr.mapUpdate, run_underlying ht, MapKept.run_getObj_map hb, K.check w false hkey, h1, MapKept.run_setObj_map _ hb, Result.andThen, setBlock]
    · intro x hx
      simp only [Array.toList_push, List.mem_append, List.mem_singleton] at hx
      rcases hx with hx | rfl
      · exact h.keys x hx
      · exact ⟨kl, hkey⟩
    · intro x hx
      simp only [Array.toList_push, List.mem_append, List.mem_singleton] at hx
      rcases hx with hx | rfl
      · exact Or.inl ⟨hx, h2 x hx⟩
      · exact Or.inr ⟨rfl, rfl⟩
    · intro x hx _
      simp only [Array.toList_push, List.mem_append, List.mem_singleton]
      exact Or.inl hx
    · exact ⟨⟨key, val, clock⟩, by simp, rfl, rfl⟩
  · have hj : es[j]? = some e0 := by simpa using h2
    have hjl : j < es.toList.length := (List.getElem?_eq_some_iff.1 h2).1
    have hkeyf : ∀ e', es[j]? = some e' → ({ e' with key := key, val := val } : MapEntry).key = e'.key := fun e' he' => by rw [hj] at he'; cases he'; exact h3.symm
    have hlist : (es.modify j (fun e' => { e' with key := key, val := val })).toList = es.toList.set j { e0 with key := key, val := val } := by rw [Array.toList_modify, modify_eq_set _ _ _ _ h2]
    have who : ∀ x ∈ es.toList.set j { e0 with key := key, val := val }, x = { e0 with key := key, val := val } ∨ (x ∈ es.toList ∧ x.key ≠ key) := by
      intro x hx
      obtain ⟨i, hi, ex⟩ := List.getElem_of_mem hx
      rw [List.getElem_set] at ex
      split at ex
      · exact Or.inl ex.symm
      · rename_i hne
        have hi' : i < es.toList.length := by simpa using hi
        have hxm : x ∈ es.toList := ex ▸ List.getElem_mem hi'
        refine Or.inr ⟨hxm, fun hk => hne ?_⟩
        have e2 := h.one hxm (List.mem_of_getElem? h2) (hk.trans h3.symm)
        have nd : (es.toList.map (·.born)).Nodup := h.stamped.2.1
        have a1 : (es.toList.map (·.born))[i]? = some e0.born := by rw [List.getElem?_map, List.getElem?_eq_getElem hi', ex, e2]; rfl
        have a2 : (es.toList.map (·.born))[j]? = some e0.born := by rw [List.getElem?_map, h2]; rfl
        exact ((List.getElem?_inj (by simpa using hi') nd).1 (a1.trans a2.symm)).symm
    refine ⟨es.modify j (fun e' => { e' with key := key, val := val }), clock, setBlock w b (.map (es.modify j (fun e' => { e' with key := key, val := val })) clock), ?_, ⟨heap_setBlock_same hb _, stamped_modify h.stamped _ _ (fun _ _ => rfl) (fun e' _ he' => hkeyf e' he'), ?_⟩, grown _, size _, by simp, ?_, ?_, ?_⟩
    · simp [Instr.mapUpdate, run_underlying ht, MapKept.run_getObj_map hb, K.check w false hkey, h1, hj, h3, K.stays w hkey, MapKept.run_setObj_map _ hb, Result.andThen, setBlock]
    · intro x hx
      rw [hlist] at hx
      rcases who x hx with rfl | ⟨hx', _⟩
      · exact ⟨kl, hkey⟩
      · exact h.keys x hx'
    · intro x hx
      rw [hlist] at hx
      rcases who x hx with rfl | h'
      · exact Or.inr ⟨rfl, rfl⟩
      · exact Or.inl h'
    · intro x hx hne
      rw [hlist]
      obtain ⟨i, hi, ex⟩ := List.getElem_of_mem hx
      have hij : j ≠ i := fun e1 => by
        subst e1
        rw [List.getElem?_eq_getElem hi, ex] at h2
        cases h2
        exact hne h3
      refine List.mem_iff_getElem.2 ⟨i, by simpa using hi, ?_⟩
      rw [List.getElem_set_ne hij]
      exact ex
    · rw [hlist]
      exact ⟨{ e0 with key := key, val := val }, List.mem_iff_getElem.2 ⟨j, by simpa using hjl, by simp⟩, rfl, rfl⟩

/-- Block b is a map that holds at each key 'mk a' what F says, and nothing else. -/
def Tab {α : Type} (P : Program) (k : TypeId) (mk : α → Value) (w : World) (b : Nat) (F : α → Option Value) : Prop :=
  ∃ es clock, MapAt P k w b es clock ∧ (∀ x ∈ es.toList, ∃ a, x.key = mk a ∧ F a = some x.val) ∧ ∀ a v, F a = some v → ∃ x ∈ es.toList, x.key = mk a ∧ x.val = v

section
variable {α : Type} {P : Program} {k t e : TypeId} {mk : α → Value} {w w' : World} {b : Nat} {F : α → Option Value}

theorem Tab.lt (h : Tab P k mk w b F) : b < w.heap.size := by obtain ⟨_, _, h, _⟩ := h; exact h.lt

theorem Tab.kept {row : Option Nat} (h : Tab P k mk w b F) (hg : w.grownBy w' row) (hne : some b ≠ row) : Tab P k mk w' b F := by
  obtain ⟨es, clock, h, r⟩ := h
  exact ⟨es, clock, h.kept hg hne, r⟩

theorem Tab.drew (h : Tab P k mk w b F) : Tab P k mk w.drew b F := by
  obtain ⟨es, clock, h, r⟩ := h
  exact ⟨es, clock, h.drew, r⟩

theorem Tab.made (P : Program) (k : TypeId) (mk : α → Value) (w : World) : Tab P k mk (w.alloc (.map #[] 0)) w.heap.size (fun _ => none) :=
  ⟨#[], 0, MapAt.made P k w, by simp, by simp⟩

theorem Tab.look (h : Tab P k mk w b F) (inj : ∀ a a', mk a = mk a' → a = a') (K : Keyed P k) (ht : P.underlying t = some (.map k e)) {z : Value} (hz : (zeroValue e).run P w = .ok z w) (a : α) {kl : Lit} (hkey : keyOf P k (mk a) = some kl) :
    (Instr.lookup t (.map (some b)) (mk a) false).run P w = .ok ((F a).getD z) w := by
  obtain ⟨es, clock, h, h1, h2⟩ := h
  cases hF : F a with
  | some v =>
    obtain ⟨x, hx, hk, hv⟩ := h2 a v hF
    have := h.look_in K ht hx
    rw [hk, hv] at this
    exact this
  | none =>
    refine h.look_out K ht hz hkey (fun x hx e1 => ?_)
    obtain ⟨a', hk', hF'⟩ := h1 x hx
    have := inj a a' (e1.symm.trans hk')
    subst this
    rw [hF] at hF'
    cases hF'

theorem Tab.store [DecidableEq α] (h : Tab P k mk w b F) (inj : ∀ a a', mk a = mk a' → a = a') (K : Keyed P k) (ht : P.underlying t = some (.map k e)) (a : α) (val : Value) {kl : Lit} (hkey : keyOf P k (mk a) = some kl) :
    ∃ w', (Instr.mapUpdate t (.map (some b)) (mk a) val).run P w = .ok () w' ∧ Tab P k mk w' b (fun a' => if a' = a then some val else F a') ∧ w.grownBy w' (some b) ∧ w'.heap.size = w.heap.size := by
  obtain ⟨es, clock, h, h1, h2⟩ := h
  obtain ⟨es', clock', w', hrun, h', hg, hs, _, who, old, new⟩ := h.store (val := val) K ht hkey
  refine ⟨w', hrun, ⟨es', clock', h', fun x hx => ?_, fun a' v hF => ?_⟩, hg, hs⟩
  · rcases who x hx with ⟨hx', hne⟩ | ⟨hk, hv⟩
    · obtain ⟨a', hk', hF'⟩ := h1 x hx'
      refine ⟨a', hk', ?_⟩
      show (if a' = a then some val else F a') = _
      rw [if_neg (fun e1 => hne (by rw [hk', e1])), hF']
    · exact ⟨a, hk, by show (if a = a then some val else F a) = _; rw [if_pos rfl, hv]⟩
  · have hF' : (if a' = a then some val else F a') = some v := hF
    by_cases e1 : a' = a
    · subst e1
      rw [if_pos rfl] at hF'
      cases hF'
      exact new
    · rw [if_neg e1] at hF'
      obtain ⟨x, hx, hk, hv⟩ := h2 a' v hF'
      exact ⟨x, old x hx (fun e2 => e1 (inj a' a (hk.symm.trans e2))), hk, hv⟩

end

/-! ### The two kinds of key -/
/-- A qname.Name. -/
def nm (a : ByteArray × ByteArray) : Value := .agg #[.string a.1, .string a.2]
def st (a : ByteArray) : Value := .string a
theorem nm_inj : ∀ a a', nm a = nm a' → a = a' := by
  rintro ⟨a, b⟩ ⟨c, d⟩ h
  simp [nm] at h
  obtain ⟨rfl, rfl⟩ := h
  rfl
theorem st_inj : ∀ a a', st a = st a' → a = a' := fun a a' h => by simpa [st] using h

theorem laidOutB' : laidOutB Try.prog = true := by kernel_rfl
theorem Try.row42 : 42 < Try.prog.types.size := of_decide_eq_true (by kernel_rfl)
theorem Try.wide42 : (match Try.prog.underlying 42 with | some (.array _ _) | some (.struct _) => true | _ => false) = true := by kernel_rfl
set_option maxRecDepth 100000 in
theorem nm_keyed : Keyed Try.prog 42 := Keyed.of_law (deep_law_laid laidOutB' (m := 2) (by omega) Try.row42 (by kernel_rfl) Try.wide42)
theorem st_keyed : Keyed Try.prog 9 := Maps.string_keyed Try.underlying9
theorem keyT42 : Try.prog.keyType 42 = true := by kernel_rfl
theorem Try.cells42 : Try.prog.cellsOf 42 = 2 := by kernel_rfl
theorem Try.cellsOf9 : Try.prog.cellsOf 9 = 1 := by kernel_rfl

/-- A struct of two strings reads as a key. -/
theorem key_two {P : Program} {k u : TypeId} {f0 f1 : Field} (hk : P.underlying k = some (.struct #[f0, f1])) (hu : P.underlying u = some .string) (h0 : f0.type = u) (h1 : f1.type = u) (o0 : f0.offset = 0) (o1 : f1.offset = 1)
    (hn : (#[f0, f1].all (·.name != "_")) = true) (hkt : P.keyType k = true) (hc : P.cellsOf k = 2) (hcu : P.cellsOf u = 1) {d : Nat} (hd : P.types.size = d + 1) (x y : ByteArray) (hx : x.size ≤ maxLen) (hy : y.size ≤ maxLen) :
    ∃ l, keyOf P k (.agg #[.string x, .string y]) = some l := by
  have e : P.keyLits (P.types.size + 1) k [.string x, .string y] = some [.string x.data.toList, .string y.data.toList] := by
    rw [hd]
    have s1 : ∀ z : ByteArray, z.size ≤ maxLen → P.keyLits (d + 1) u [.string z] = some [.string z.data.toList] := fun z hz => by
      unfold Program.keyLits
      rw [hu]
      simp [hz]
    unfold Program.keyLits
    rw [hk]
    simp only [hn, hc]
    simp [h0, h1, o0, o1, hcu, s1 x hx, s1 y hy]
  unfold keyOf
  rw [hk]
  simp only [hkt, Value.formed, hk, hc]
  refine ⟨.string (keyBytes [.string x.data.toList, .string y.data.toList]), ?_⟩
  have : (Value.agg #[.string x, .string y]).cells.toList = [.string x, .string y] := by simp [Value.cells]
  rw [this, e]
  simp

theorem pos_succ {n m : Nat} (h : m < n) : ∃ d, n = d + 1 := ⟨n - 1, by omega⟩
theorem Try.sized : ∃ d, Try.prog.types.size = d + 1 := pos_succ Try.row42

theorem nm_key (a : ByteArray × ByteArray) (h1 : a.1.size ≤ maxLen) (h2 : a.2.size ≤ maxLen) : ∃ l, keyOf Try.prog 42 (nm a) = some l :=
  Try.sized.elim fun _ hd => key_two Try.underlying42 Try.underlying9 rfl rfl rfl rfl (by kernel_rfl) keyT42 Try.cells42 Try.cellsOf9 hd a.1 a.2 h1 h2

theorem st_key (a : ByteArray) (h1 : a.size ≤ maxLen) : ∃ l, keyOf Try.prog 9 (st a) = some l := by
  unfold keyOf
  simp [Try.underlying9, mapKey, st, h1]

theorem Try.zero37 (w : World) : (zeroValue 37).run Try.prog w = .ok (.pointer none) w := by kernel_rfl
theorem Try.zero4 (w : World) : (zeroValue 4).run Try.prog w = .ok (.bool false) w := by kernel_rfl

end Go.Proofs.Qxb6608866a
