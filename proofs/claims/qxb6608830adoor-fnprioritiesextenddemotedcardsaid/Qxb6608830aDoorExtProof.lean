import Derived.Test.Qxb6608830aDoorOpen
import Derived.Test.Qxb6608830aDoorExtTop
import Derived.Test.Qxb6608830aDoorTie
import Derived.Test.Qxb6608830aDoorCards
import Derived.SevenTiedAt
import Derived.Stop.Joined
import Derived.ShutString
import Derived.ChangeOld
namespace Go.Proofs.Qxb6608830aDoor
open Go.ChangeShapes Go.WideShapes Go.ChangeAt Go.RowKit
open Go.ChangeMaps (open_string shut_string)

theorem own5 : ownKnob Tryd.prog.godebug = none := by kernel_rfl
theorem laidOut5 : laidOutB Tryd.prog = true := by kernel_rfl

set_option maxRecDepth 100000 in
theorem ext_lifted (os : Os) (started : os.Started) (H : Type) (enc : TypeId × Value → H) :
    ReturnsInHanded {} Tryd.checked os 5 .any (fun w args => (Rows.fnPrioritiesExtendDemotedSpec.pre enc Tryd.prog Tryd.f5 [] false w args ∧ laidMetH Tryd.prog Rows.fnPrioritiesExtendDemotedRow.laid w) ∧ sizedMet enc Tryd.prog Tryd.f5 (OpenSpec.ofChange Rows.fnPrioritiesExtendDemotedSpec) false w args)
      (Rows.fnPrioritiesExtendDemotedSpec.post enc Tryd.prog Tryd.f5 false true false false) := by
  refine returnsInHanded_of_change_and (C := Tryd.checked) (X := fun w _ => laidMetH Tryd.prog Rows.fnPrioritiesExtendDemotedRow.laid w) (fun _ _ _ hh h => h.of_heap hh) own5 started (by kernel_rfl) Tryd.func5
    (ChangeSpec.witness_shaped (enc := enc) (C := Tryd.checked) (os := os) (X := fun w _ => laidMetH Tryd.prog Rows.fnPrioritiesExtendDemotedRow.laid w) false (World.doorLaid Tryd.prog 24 os) #[.string ByteArray.empty, .slice none 0 0] 8 rfl (World.shaped_of_RefB (by kernel_rfl) (by kernel_rfl)) (by kernel_rfl) (by kernel_rfl) (by kernel_rfl) (door_met os _)) ?_
  intro W base args ds gs before hval0 hW _ _ hL _
  have hval : ∀ (j : Nat) t v, Tryd.f5.params[j]? = some t → args[j]? = some v → Value.okWide Tryd.prog W .any base t v := hval0
  have hW' := hW
  obtain ⟨p, q, hA0, hV, rfl, hfz, hnd⟩ := hW
  have hA : DataW.TrodAll enc Tryd.prog W 0 (fun _ => true) true Tryd.f5.params.toList args.toList ds p := hA0
  rw [Tryd.params5] at hA hval
  obtain ⟨v0, v1, d0, d1, p0, p1, rfl, rfl, rfl, h0, h1⟩ := trodAll_two hA
  obtain ⟨rfl, rfl⟩ := trodVars_none hV
  obtain ⟨s, rfl, rfl, rfl, hs⟩ := open_string Tryd.underlying9 (hval 0 9 v0 rfl rfl) h0
  obtain ⟨a1, n, cap, rfl⟩ := okWide_slice Tryd.underlying42 (hval 1 42 v1 rfl rfl)
  have k1 := h1
  have lt1 : ∀ x ∈ p1, x.block < W.heap.size := by obtain ⟨m, hm⟩ := k1; exact DataW.trod_lt m _ _ _ hm
  obtain ⟨fuel, hf⟩ := h1
  obtain ⟨b, off, ip, port, prio, ha, hn, hT, hip, hp, hq⟩ := open_trips (by simpa [Value.cells] using hf)
  clear hA0 hval0
  refine (ext_top s a1 b off n cap ha ip port prio W hs hn hT hip (tab_of hL) hp hq).mono fun e W' ⟨he, bel⟩ => ?_
  subst he
  exact ⟨_, rfl, _, _, _, [], _, [], hW', trodAll_mk1 (shut_bool Tryd.underlying4 _), (trodAll_cons_mk (shut_string Tryd.underlying9 hs) (trodAll_cons_mk (Below.trod laidOut5 (by kernel_rfl) (of_decide_eq_true (by kernel_rfl)) k1 bel lt1) trodAll_mk0)), rfl, bel.frame _, fun h => by cases h⟩

theorem ext_row : Rows.FnPrioritiesExtendDemotedSaid :=
  OpenClaim.holds_of_wide 5 Tryd.f5 rfl rfl rfl rfl rfl rfl rfl ⟨rfl, rfl, rfl, rfl, rfl⟩ rfl rfl rfl rfl rfl (by kernel_rfl) Tryd.func5 (by kernel_rfl)
    (of_decide_eq_true (by kernel_rfl)) (by unfold Func.isWrapper; first | (rw [if_pos (by decide +kernel)]; kernel_rfl) | (rw [if_neg (by decide +kernel)]; exact ⟨rfl, rfl⟩))
    (fun os started H enc _ => ext_lifted os started H enc)

theorem ext_card : Rows.FnPrioritiesExtendDemotedCardSaid :=
  Claim7.holds_tied_plain_at .later [] [.data, .data, .data] true Rows.fnPrioritiesExtendDemotedCard.stood.harness false
    ext_row (fun _ h => by cases h) (by kernel_rfl) (fun _ h => by cases h) fnPrioritiesExtendDemoted_row_tie rfl ⟨rfl, rfl⟩ (by kernel_rfl) rfl
    (fun f fn hf hfn => by
      obtain rfl : f = 5 := Option.some.inj ((show Tryd.prog.funcNamed Rows.fnPrioritiesExtendDemotedRow.func = some 5 by kernel_rfl).symm.trans hf) |>.symm
      obtain rfl : fn = Tryd.f5 := (Option.some.inj (Tryd.func5.symm.trans hfn)).symm
      exact ⟨by kernel_rfl, fun j t ht => by
        rw [Tryd.params5] at ht
        have hm : t ∈ [9, 42] := by simpa using Array.mem_of_getElem? ht
        have hall : ([9, 42].all fun u => !Tryd.prog.wantsStandIn u) = true := by kernel_rfl
        exact (show Tryd.prog.wantsStandIn t = false by simpa using List.all_eq_true.1 hall t hm)⟩)
    (by kernel_rfl)
#print axioms ext_card
end Go.Proofs.Qxb6608830aDoor
