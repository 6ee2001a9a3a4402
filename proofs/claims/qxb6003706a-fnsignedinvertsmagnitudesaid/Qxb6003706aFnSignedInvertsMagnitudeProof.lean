/-
  The proof of Rows.FnSignedInvertsMagnitudeSaid: the shell that the kit's tool wrote for this function, its hole filled.
-/
import Derived.Test.Qxb6003706aRows
import Derived.WalkKit
import Derived.ProofKit
import Derived.OpenShut
import Derived.ShutString
import Derived.Test.Qxb6003706aDec
import Derived.Laws.StructEq
import Derived.Deep.RegionWith
namespace Go.Proofs.Qxb6003706a.fnSignedInvertsMagnitude
open Go.ChangeShapes Go.WideShapes Go.ChangeAt Go.RowKit
open Go.ChangeMaps (open_string shut_string)
set_option linter.unusedVariables false      -- a walk need not use every 'w<i>' (that an integer argument fits its kind)

theorem own : ownKnob Try.prog.godebug = none := by kernel_rfl

/-! ### STEP 1: THE WALK -/
theorem eql24 (a b : Int) (w : World) : (binOp .eql 24 (.agg #[.int .i64 a, .int .i8 b]) (.agg #[.int .i64 a, .int .i8 b])).run Try.prog w = .ok (.bool true) w := by
  have u2 := Try.underlying2
  have u22 := Try.underlying22
  have hS : Try.prog.underlying 24 = some (.struct (Try.prog.fieldsOf 24)) := by kernel_rfl
  have hp : Try.prog.stoodInHeld 24 = false := by kernel_rfl
  rw [run_eql_struct, show (10000 : Nat) = 9999 + 1 from rfl, run_equalIn_agg w 9999 24 _ _ hS hp]
  simp only [Program.fieldsOf, Try.underlying24]
  go_simp
theorem guard24 : Try.prog.eqGuardType Try.prog.depth 24 = false := by kernel_rfl

set_option maxHeartbeats 4000000 in
theorem walk (a0 : Int) (a1 : Int) (w0 : (Lit.int .i64 a0).wf = true) (w1 : (Lit.int .i8 a1).wf = true) (w : World) :
    Calls Try.prog 5 #[.int .i64 a0, .int .i8 a1] w fun e w' => e = .returned (.bool true) ∧ Grown w w' := by
  have b0 := bounds_i64 w0
  have b1 := bounds_i8 w1
  by_cases h1 : a0 ≤ -1000000000000000000
  · go_enter Try.func5, Try.ntmps5
    go_wp2
    go_ret
    exact ⟨rfl, by repeat (first | exact Grown.refl _ | apply Grown.drew | apply Grown.alloc)⟩
  by_cases h2 : 1000000000000000000 ≤ a0
  · go_enter Try.func5, Try.ntmps5
    go_wp2
    go_ret
    exact ⟨rfl, by repeat (first | exact Grown.refl _ | apply Grown.drew | apply Grown.alloc)⟩
  by_cases h3 : a1 < 0
  · go_enter Try.func5, Try.ntmps5
    go_wp2
    go_ret
    exact ⟨rfl, by repeat (first | exact Grown.refl _ | apply Grown.drew | apply Grown.alloc)⟩
  by_cases h4 : 18 < a1
  · go_enter Try.func5, Try.ntmps5
    go_wp2
    go_ret
    exact ⟨rfl, by repeat (first | exact Grown.refl _ | apply Grown.drew | apply Grown.alloc)⟩
  have hwr : IntKind.i64.wrap a1 = a1 := by rw [IntKind.wrap_i64]; omega
  have heq := eql24
  have hgu := guard24
  by_cases h5 : a0 < 0
  · have ea : absI a0 = -a0 := by unfold absI; rw [if_pos h5]
    have hd : decide (a0 < 0) = true := by simp [h5]
    go_enter Try.func5, Try.ntmps5
    go_wp2_with fail
    refine (ZZmag_any _ _ (by omega) (by omega)).mono ?_
    rw [ea]
    rintro e w ⟨rfl, rfl⟩
    clear ea
    go_wp2_with fail
    refine (ZZsigned_neg _ _ _ (by omega) (by omega) (by omega) (by omega)).mono ?_
    rintro e w1' ⟨rfl, rfl⟩
    go_wp2_with fail
    go_region_with (first | (go_at_call 7; refine (ZZmake_any _ _ _).mono ?_; rintro e w' ⟨rfl, rfl⟩) | (go_at_call 13; refine (scale_any _ _ _ (by omega) (by omega)).mono ?_; rintro e w' ⟨rfl, rfl⟩))
    all_goals
      go_wp2_with fail
      go_ret
      exact ⟨rfl, by repeat (first | exact Grown.refl _ | apply Grown.drew | apply Grown.alloc)⟩
  · have ea : absI a0 = a0 := by unfold absI; rw [if_neg h5]
    have hd : decide (a0 < 0) = false := by simp; omega
    go_enter Try.func5, Try.ntmps5
    go_wp2_with fail
    refine (ZZmag_any _ _ (by omega) (by omega)).mono ?_
    rw [ea]
    rintro e w ⟨rfl, rfl⟩
    clear ea
    go_wp2_with fail
    refine (ZZsigned_pos _ _ _ (by omega) (by omega) (by omega) (by omega)).mono ?_
    rintro e w1' ⟨rfl, rfl⟩
    go_wp2_with fail
    go_region_with (first | (go_at_call 7; refine (ZZmake_any _ _ _).mono ?_; rintro e w' ⟨rfl, rfl⟩) | (go_at_call 13; refine (scale_any _ _ _ (by omega) (by omega)).mono ?_; rintro e w' ⟨rfl, rfl⟩))
    all_goals
      go_wp2_with fail
      go_ret
      exact ⟨rfl, by repeat (first | exact Grown.refl _ | apply Grown.drew | apply Grown.alloc)⟩

/-! ### THE ROW's STEP: WRITTEN OUT: LEAVE IT -/
set_option maxRecDepth 100000 in
theorem lifted (os : Os) (started : os.Started) (H : Type) (enc : TypeId × Value → H) :
    ReturnsInHanded {} Try.checked os 5 .any (Rows.fnSignedInvertsMagnitudeSpec.pre6 enc Try.prog Try.f5 Rows.fnSignedInvertsMagnitudeRow.domain false) (Rows.fnSignedInvertsMagnitudeSpec.post enc Try.prog Try.f5 false true false false) := by
  refine returnsInHanded_of_change (C := Try.checked) own started (by kernel_rfl) Try.func5
    (ChangeSpec.witness6 (enc := enc) (C := Try.checked) false ⟨#[], #[.int .i64 0, .int .i8 0], []⟩ 8 (by kernel_rfl) (by kernel_rfl) (by kernel_rfl) (by kernel_rfl)) ?_
  intro W base args ds gs before hval0 hW hcnd _
  have hval : ∀ (j : Nat) t v, Try.f5.params[j]? = some t → args[j]? = some v → Value.okWide Try.prog W .any base t v := hval0
  have hW' := hW
  obtain ⟨p, q, hA0, hV, rfl, hfz, hnd⟩ := hW
  have hA : DataW.TrodAll enc Try.prog W 0 (fun _ => true) true Try.f5.params.toList args.toList ds p := hA0
  rw [Try.params5] at hA hval
  obtain ⟨v0, vs0, d0, ds0, p0, q0, hargs, rfl, rfl, h0, r0⟩ := trodAll_cons hA
  obtain ⟨v1, vs1, d1, ds1, p1, q1, rfl, rfl, rfl, h1, r1⟩ := trodAll_cons r0
  obtain ⟨rfl, rfl, rfl⟩ := trodAll_nil r1
  obtain rfl : args = #[v0, v1] := by cases args; simp_all
  obtain ⟨rfl, rfl⟩ := trodVars_none hV
  obtain ⟨a0, rfl, rfl, rfl, w0⟩ := open_int Try.underlying2 (hval 0 2 v0 rfl rfl) h0
  obtain ⟨a1, rfl, rfl, rfl, w1⟩ := open_int Try.underlying22 (hval 1 22 v1 rfl rfl) h1
  clear hA0 hval0
  simp only [List.append_nil] at hW'
  refine (walk a0 a1 w0 w1 W).mono fun e W' ⟨he, hg⟩ => ?_
  subst he
  exact ⟨_, rfl, post_of_same (pa := []) (pv := []) hW' (fun _ _ _ => (trodAll_cons_mk (shut_bool Try.underlying4 _) trodAll_mk0)) (fun sp _ => (trodAll_cons_mk (shut_int Try.underlying2 w0) (trodAll_cons_mk (shut_int Try.underlying22 w1) trodAll_mk0))) (fun _ _ => rfl) rfl
    (hg.frame _) hg.2.1 (ok_one (by kernel_rfl) rfl (okWide_bool_mk Try.underlying4 _))⟩

theorem over : Rows.fnSignedInvertsMagnitudeRow.holds Try.pinned (OpenSpec.ofChange Rows.fnSignedInvertsMagnitudeSpec) :=
  OpenClaim.holds_of_wide 5 Try.f5 rfl rfl rfl rfl rfl rfl rfl ⟨rfl, rfl, rfl, rfl, rfl⟩ rfl rfl rfl rfl rfl (by kernel_rfl) Try.func5 (by kernel_rfl)
    (of_decide_eq_true (by kernel_rfl)) (by unfold Func.isWrapper; first | (rw [if_pos (by decide +kernel)]; kernel_rfl) | (rw [if_neg (by decide +kernel)]; exact ⟨rfl, rfl⟩))
    (fun os started H enc _ => lifted os started H enc)

/-- ████ THE STATEMENT ████ -/
theorem proved : Rows.FnSignedInvertsMagnitudeSaid :=
  over
#print axioms proved
end Go.Proofs.Qxb6003706a.fnSignedInvertsMagnitude
