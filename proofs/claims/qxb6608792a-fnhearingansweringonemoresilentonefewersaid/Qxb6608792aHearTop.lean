import Derived.Test.Qxb6608792aHearWalks
namespace Go.Proofs.Qxb6608792a
open Go.RowKit Go.Deep

set_option maxRecDepth 100000 in
set_option maxHeartbeats 400000 in
theorem hear_walk (a0 : Int) (a1 : Int) (a2 : Option Addr) (len2 cap2 : Nat) (z2 : List Int) (a3 : Int) (a4 : Bool) (a5 : Int) (a6 : Int) (a7 : Option Addr) (len7 cap7 : Nat) (z7 : List Int) (a8 : Int) (a9 : Bool) (w : World) (w1 : (Lit.int .i64 a1).wf = true) (w2 : IsRow .i64 w a2 len2 cap2 z2) (w5 : (Lit.int .i32 a5).wf = true) (w7 : IsRow .i64 w a7 len7 cap7 z7) :
    Calls Try.prog 3 #[.int .i64 a0, .int .i64 a1, .slice a2 len2 cap2, .int .u64 a3, .bool a4, .int .i32 a5, .int .i64 a6, .slice a7 len7 cap7, .int .u64 a8, .bool a9] w fun e w' => e = .returned (.bool true) ∧ Below w.heap.size w w' := by
  have hb5 := bounds_i32 w5
  have hb1 := bounds_i64 w1
  have hl2 := w2.len_le
  have hl7 := w7.len_le
  unfold maxLen at hl2 hl7
  go_enter Try.func3, Try.ntmps3
  go_wp2_with (first
    | (go_at_call 5; refine (bytes_any _ _ _ _ _ _ _ _ _ _ _ _ _ _ _ (by unfold maxLen; omega) (by unfold maxLen; omega)).mono ?_; rintro e w' ⟨⟨b, rfl⟩, rfl⟩)
    | fail)
  case _ => go_ret; exact ⟨rfl, Below.refl _ _⟩
  case _ => go_ret; exact ⟨rfl, Below.refl _ _⟩
  case _ => go_ret; exact ⟨rfl, Below.refl _ _⟩
  case _ =>
    refine (clone_any _ _ _ z2 _ w w2 (Below.refl _ _) (by omega)).mono ?_
    rintro e w3 ⟨a', c', rfl, hbw3⟩
    go_wp2_with fail
    refine (clone_any _ _ _ z7 _ w w7 hbw3 (by omega)).mono ?_
    rintro e w4 ⟨a'', c'', rfl, hbw4⟩
    have ha5 : a5 ≠ 2147483647 := by
      have h5 : (a5 == 2147483647) = false := by assumption
      simpa using h5
    go_wp2_with fail
    refine (newHearing_any _ _ _ _ _ _ _ _ _).mono ?_
    rintro e w5 ⟨rfl, rfl⟩
    go_wp2_with fail
    refine (zzanswering_any w4.heap.size a1 a5 _ (by simp [go_sem]) (by simp [go_sem]) hb5.1 hb5.2).mono ?_
    rintro e w6 ⟨rfl, hbw6⟩
    go_wp2_with fail
    refine (newHearing_any _ _ _ _ _ _ _ _ _).mono ?_
    rintro e w8 ⟨rfl, rfl⟩
    go_wp2_with fail
    refine (zzanswering_any w6.heap.size a1 (a5 + 1) _ (by simp [go_sem]) (by simp [go_sem]) (by omega) (by omega)).mono ?_
    rintro e w9 ⟨rfl, hbw9⟩
    obtain ⟨_e1, _e2⟩ := Bool.and_eq_true_iff.1 (ans_law a1 a5 hb1.1 hb1.2)
    go_wp2
    go_ret
    have z4 := hbw4.size
    have z6 := hbw6.size
    have z9 := hbw9.size
    simp at z6 z9
    refine ⟨by simp, (((hbw4.alloc z4 _).trans (hbw6.mono (by simp; omega))).alloc (by omega) _).trans (hbw9.mono (by simp; omega))⟩
  case _ => go_ret; exact ⟨rfl, Below.refl _ _⟩

end Go.Proofs.Qxb6608792a
