import Derived.Test.Qxb6608866aKids
namespace Go.Proofs.Qxb6608866a
open Go.RowKit Go.Deep Go.MapKept
open Go.Maps (Keyed)
attribute [local instance] Classical.propDecidable

/-- The set's reading. -/
noncomputable def setF {α : Type} (A : List α) : α → Option Value := fun a => if a ∈ A then some (.bool true) else none

theorem setF_in {α : Type} {A : List α} {a : α} (h : a ∈ A) (z : Value) : (setF A a).getD z = .bool true := by simp [setF, h]
theorem setF_out {α : Type} {A : List α} {a : α} (h : a ∉ A) (z : Value) : (setF A a).getD z = z := by simp [setF, h]
theorem setF_cons {α : Type} [DecidableEq α] (A : List α) (a : α) : (fun a' => if a' = a then some (Value.bool true) else setF A a') = setF (a :: A) := by
  funext a'
  by_cases e : a' = a <;> simp [setF, e]
theorem setF_nil {α : Type} : (fun _ : α => (none : Option Value)) = setF [] := by funext a; simp [setF]

/-- An entry's name. -/
def strOf : Value → ByteArray
  | .string s => s
  | _ => ByteArray.empty
def nameOf (x : MapEntry) : ByteArray × ByteArray :=
  match x.key with
  | .agg cs => (strOf (cs.getD 0 undef), strOf (cs.getD 1 undef))
  | _ => (ByteArray.empty, ByteArray.empty)

theorem nameOf_eq {x : MapEntry} {a : ByteArray × ByteArray} (h : x.key = nm a) : nameOf x = a := by simp [nameOf, h, nm, strOf]
theorem ident_eq {x : MapEntry} {a : ByteArray × ByteArray} (h : x.key = nm a) : ident x.key = a.2 := by rw [h]; rfl

theorem filter_or {α : Type} (p q : α → Bool) (h : ∀ x, p x = true → q x = false) : ∀ l : List α, (l.filter (fun x => p x || q x)).length = (l.filter q).length + (l.filter p).length
  | [] => rfl
  | x :: l => by
    have ih := filter_or p q h l
    cases hp : p x <;> cases hq : q x
    · simp [hp, hq]; exact ih
    · simp [hp, hq]; omega
    · simp [hp, hq]; omega
    · rw [h x hp] at hq; cases hq

/-- How many entries bear an identifier of A. -/
noncomputable def cnt (es : Array MapEntry) (A : List ByteArray) : Nat := (es.toList.filter (fun e => decide (ident e.key ∈ A))).length

theorem nodup_entries {es : Array MapEntry} {clock : Nat} (h : Stamped es clock) : es.toList.Nodup := List.Pairwise.imp (fun {a b} (hne : a.key ≠ b.key) e => hne (by rw [e])) ((stamped_iff es clock).1 h).2.2

theorem cnt_step {es : Array MapEntry} {clock : Nat} (h : Stamped es clock) {A : List ByteArray} {x : ByteArray} (hx : x ∉ A) {G : List MapEntry} (hG : G.Nodup) (hm : ∀ e, e ∈ G ↔ (e ∈ es.toList ∧ ident e.key = x)) : cnt es (x :: A) = cnt es A + G.length := by
  have e1 : (fun e : MapEntry => decide (ident e.key ∈ x :: A)) = (fun e => decide (ident e.key = x) || decide (ident e.key ∈ A)) := by
    funext e
    simp
  unfold cnt
  have e2 := filter_or (fun e : MapEntry => decide (ident e.key = x)) (fun e : MapEntry => decide (ident e.key ∈ A)) (fun e he => by simp at he; simp [he, hx]) es.toList
  rw [e1, e2]
  have l1 := length_le_of_sub (L := es.toList.filter (fun e => decide (ident e.key = x))) hG (fun e he => by simpa using (hm e).1 he)
  have l2 := length_le_of_sub (L := G) ((nodup_entries h).filter (fun e => decide (ident e.key = x))) (fun e he => (hm e).2 (by simpa using he))
  omega

theorem cnt_nil (es : Array MapEntry) : cnt es [] = 0 := by simp [cnt]

theorem cnt_all {es : Array MapEntry} {A : List ByteArray} (h : ∀ e ∈ es.toList, ident e.key ∈ A) : cnt es A = es.size := by
  unfold cnt
  rw [List.filter_eq_self.2 (fun e he => by simp [h e he])]
  simp

theorem cnt_le (es : Array MapEntry) (A : List ByteArray) : cnt es A ≤ es.size := by
  have := List.length_filter_le (fun e : MapEntry => decide (ident e.key ∈ A)) es.toList
  simpa [cnt] using this

end Go.Proofs.Qxb6608866a
