/-
  The proof of Rows.FnSignedKeepsMagnitudeScaleAndSignSaid: the shell that the kit's tool wrote for this function, its hole filled.
-/
import Derived.Test.Qxb6003706aRows
import Derived.WalkKit
import Derived.ProofKit
import Derived.OpenShut
import Derived.ShutString
import Derived.Test.Qxb6003706aDec
namespace Go.Proofs.Qxb6003706a.fnSignedKeepsMagnitudeScaleAndSign
open Go.ChangeShapes Go.WideShapes Go.ChangeAt Go.RowKit
open Go.ChangeMaps (open_string shut_string)
set_option linter.unusedVariables false      -- a walk need not use every 'w<i>' (that an integer argument fits its kind)

theorem own : ownKnob Try.prog.godebug = none := by kernel_rfl

/-! ### STEP 1: THE WALK -/
theorem ZZsigned_zero (s : Int) (w : World) (h2 : 0 ≤ s) (h3 : s ≤ 18) :
    Calls Try.prog 11 #[.int .u64 0, .bool true, .int .i64 s] w fun e w' => e = .returned (.agg #[.int .i64 0, .int .i8 s]) ∧ w' = (w.alloc (.cells #[.int .i64 0, .int .i8 s] 24)).alloc (.cells #[.int .i64 0, .int .i8 s] 24) := by
  have h := ZZsigned_any 0 s true w (by omega) (by omega) h2 h3
  simpa using h

set_option maxHeartbeats 1000000 in
theorem walk (a0 : Int) (a1 : Bool) (a2 : Int) (w0 : (Lit.int .u64 a0).wf = true) (w2 : (Lit.int .i8 a2).wf = true) (w : World) :
    Calls Try.prog 6 #[.int .u64 a0, .bool a1, .int .i8 a2] w fun e w' => e = .returned (.bool true) ∧ Grown w w' := by
  have b0 := bounds_u64 w0
  have b2 := bounds_i8 w2
  by_cases h2 : 1000000000000000000 ≤ a0
  · go_enter Try.func6, Try.ntmps6
    go_wp2
    go_ret
    exact ⟨rfl, by repeat (first | exact Grown.refl _ | apply Grown.drew | apply Grown.alloc)⟩
  by_cases h3 : a2 < 0
  · go_enter Try.func6, Try.ntmps6
    go_wp2
    go_ret
    exact ⟨rfl, by repeat (first | exact Grown.refl _ | apply Grown.drew | apply Grown.alloc)⟩
  by_cases h4 : 18 < a2
  · go_enter Try.func6, Try.ntmps6
    go_wp2
    go_ret
    exact ⟨rfl, by repeat (first | exact Grown.refl _ | apply Grown.drew | apply Grown.alloc)⟩
  cases a1
  · have ea : absI a0 = a0 := by unfold absI; rw [if_neg (by omega)]
    by_cases hz : a0 = 0
    · subst hz
      have es : sgn 0 = 0 := rfl
      go_enter Try.func6, Try.ntmps6
      go_wp2_with fail
      refine (ZZsigned_pos _ _ _ (by omega) (by omega) (by omega) (by omega)).mono ?_
      rintro e w1' ⟨rfl, rfl⟩
      go_wp2_with fail
      refine (coef_any _ _ _).mono ?_
      rintro e w1' ⟨rfl, rfl⟩
      go_wp2_with fail
      refine (ZZmag_any _ _ (by omega) (by omega)).mono ?_
      rw [ea]
      rintro e w1' ⟨rfl, rfl⟩
      clear ea
      go_wp2_with fail
      refine (scale_any _ _ _ (by omega) (by omega)).mono ?_
      rintro e w1' ⟨rfl, rfl⟩
      go_wp2_with fail
      refine (sign_any _ _ _).mono ?_
      rw [es]
      rintro e w1' ⟨rfl, rfl⟩
      clear es
      go_wp2_with fail
      go_ret
      exact ⟨rfl, by repeat (first | exact Grown.refl _ | apply Grown.drew | apply Grown.alloc)⟩
    · have es : sgn a0 = 1 := by unfold sgn; rw [if_neg (by omega), if_pos (by omega)]
      have hz1 : 1 ≤ a0 := by omega
      clear hz
      go_enter Try.func6, Try.ntmps6
      go_wp2_with fail
      refine (ZZsigned_pos _ _ _ (by omega) (by omega) (by omega) (by omega)).mono ?_
      rintro e w1' ⟨rfl, rfl⟩
      go_wp2_with fail
      refine (coef_any _ _ _).mono ?_
      rintro e w1' ⟨rfl, rfl⟩
      go_wp2_with fail
      refine (ZZmag_any _ _ (by omega) (by omega)).mono ?_
      rw [ea]
      rintro e w1' ⟨rfl, rfl⟩
      clear ea
      go_wp2_with fail
      refine (scale_any _ _ _ (by omega) (by omega)).mono ?_
      rintro e w1' ⟨rfl, rfl⟩
      go_wp2_with fail
      refine (sign_any _ _ _).mono ?_
      rw [es]
      rintro e w1' ⟨rfl, rfl⟩
      clear es
      go_wp2_with fail
      go_ret
      exact ⟨rfl, by repeat (first | exact Grown.refl _ | apply Grown.drew | apply Grown.alloc)⟩
  · by_cases hz : a0 = 0
    · subst hz
      have ea : absI 0 = 0 := rfl
      have es : sgn 0 = 0 := rfl
      go_enter Try.func6, Try.ntmps6
      go_wp2_with fail
      refine (ZZsigned_zero _ _ (by omega) (by omega)).mono ?_
      rintro e w1' ⟨rfl, rfl⟩
      go_wp2_with fail
      refine (coef_any _ _ _).mono ?_
      rintro e w1' ⟨rfl, rfl⟩
      go_wp2_with fail
      refine (ZZmag_any _ _ (by omega) (by omega)).mono ?_
      rw [ea]
      rintro e w1' ⟨rfl, rfl⟩
      clear ea
      go_wp2_with fail
      refine (scale_any _ _ _ (by omega) (by omega)).mono ?_
      rintro e w1' ⟨rfl, rfl⟩
      go_wp2_with fail
      refine (sign_any _ _ _).mono ?_
      rw [es]
      rintro e w1' ⟨rfl, rfl⟩
      clear es
      go_wp2_with fail
      go_ret
      exact ⟨rfl, by repeat (first | exact Grown.refl _ | apply Grown.drew | apply Grown.alloc)⟩
    · obtain ⟨c, hc⟩ : ∃ c, c = -a0 := ⟨_, rfl⟩
      obtain rfl : a0 = -c := by omega
      clear hc
      have ea : absI c = -c := by unfold absI; split <;> omega
      have es : sgn c = -1 := by unfold sgn; rw [if_pos (by omega)]
      have hz1 : c ≤ -1 := by omega
      clear hz
      go_enter Try.func6, Try.ntmps6
      go_wp2_with fail
      refine (ZZsigned_neg _ _ _ (by omega) (by omega) (by omega) (by omega)).mono ?_
      rintro e w1' ⟨rfl, rfl⟩
      go_wp2_with fail
      refine (coef_any _ _ _).mono ?_
      rintro e w1' ⟨rfl, rfl⟩
      go_wp2_with fail
      refine (ZZmag_any _ _ (by omega) (by omega)).mono ?_
      rw [ea]
      rintro e w1' ⟨rfl, rfl⟩
      clear ea
      go_wp2_with fail
      refine (scale_any _ _ _ (by omega) (by omega)).mono ?_
      rintro e w1' ⟨rfl, rfl⟩
      go_wp2_with fail
      refine (sign_any _ _ _).mono ?_
      rw [es]
      rintro e w1' ⟨rfl, rfl⟩
      clear es
      go_wp2_with fail
      go_ret
      exact ⟨rfl, by repeat (first | exact Grown.refl _ | apply Grown.drew | apply Grown.alloc)⟩

/-! ### THE ROW's STEP: WRITTEN OUT: LEAVE IT -/
set_option maxRecDepth 100000 in
theorem lifted (os : Os) (started : os.Started) (H : Type) (enc : TypeId × Value → H) :
    ReturnsInHanded {} Try.checked os 6 .any (Rows.fnSignedKeepsMagnitudeScaleAndSignSpec.pre6 enc Try.prog Try.f6 Rows.fnSignedKeepsMagnitudeScaleAndSignRow.domain false) (Rows.fnSignedKeepsMagnitudeScaleAndSignSpec.post enc Try.prog Try.f6 false true false false) := by
  refine returnsInHanded_of_change (C := Try.checked) own started (by kernel_rfl) Try.func6
    (ChangeSpec.witness6 (enc := enc) (C := Try.checked) false ⟨#[], #[.int .u64 0, .bool false, .int .i8 0], []⟩ 8 (by kernel_rfl) (by kernel_rfl) (by kernel_rfl) (by kernel_rfl)) ?_
  intro W base args ds gs before hval0 hW hcnd _
  have hval : ∀ (j : Nat) t v, Try.f6.params[j]? = some t → args[j]? = some v → Value.okWide Try.prog W .any base t v := hval0
  have hW' := hW
  obtain ⟨p, q, hA0, hV, rfl, hfz, hnd⟩ := hW
  have hA : DataW.TrodAll enc Try.prog W 0 (fun _ => true) true Try.f6.params.toList args.toList ds p := hA0
  rw [Try.params6] at hA hval
  obtain ⟨v0, vs0, d0, ds0, p0, q0, hargs, rfl, rfl, h0, r0⟩ := trodAll_cons hA
  obtain ⟨v1, vs1, d1, ds1, p1, q1, rfl, rfl, rfl, h1, r1⟩ := trodAll_cons r0
  obtain ⟨v2, vs2, d2, ds2, p2, q2, rfl, rfl, rfl, h2, r2⟩ := trodAll_cons r1
  obtain ⟨rfl, rfl, rfl⟩ := trodAll_nil r2
  obtain rfl : args = #[v0, v1, v2] := by cases args; simp_all
  obtain ⟨rfl, rfl⟩ := trodVars_none hV
  obtain ⟨a0, rfl, rfl, rfl, w0⟩ := open_int Try.underlying27 (hval 0 27 v0 rfl rfl) h0
  obtain ⟨a1, rfl, rfl, rfl⟩ := open_bool Try.underlying4 (hval 1 4 v1 rfl rfl) h1
  obtain ⟨a2, rfl, rfl, rfl, w2⟩ := open_int Try.underlying22 (hval 2 22 v2 rfl rfl) h2
  clear hA0 hval0
  simp only [List.append_nil] at hW'
  refine (walk a0 a1 a2 w0 w2 W).mono fun e W' ⟨he, hg⟩ => ?_
  subst he
  exact ⟨_, rfl, post_of_same (pa := []) (pv := []) hW' (fun _ _ _ => (trodAll_cons_mk (shut_bool Try.underlying4 _) trodAll_mk0)) (fun sp _ => (trodAll_cons_mk (shut_int Try.underlying27 w0) (trodAll_cons_mk (shut_bool Try.underlying4 _) (trodAll_cons_mk (shut_int Try.underlying22 w2) trodAll_mk0)))) (fun _ _ => rfl) rfl
    (hg.frame _) hg.2.1 (ok_one (by kernel_rfl) rfl (okWide_bool_mk Try.underlying4 _))⟩

theorem over : Rows.fnSignedKeepsMagnitudeScaleAndSignRow.holds Try.pinned (OpenSpec.ofChange Rows.fnSignedKeepsMagnitudeScaleAndSignSpec) :=
  OpenClaim.holds_of_wide 6 Try.f6 rfl rfl rfl rfl rfl rfl rfl ⟨rfl, rfl, rfl, rfl, rfl⟩ rfl rfl rfl rfl rfl (by kernel_rfl) Try.func6 (by kernel_rfl)
    (of_decide_eq_true (by kernel_rfl)) (by unfold Func.isWrapper; first | (rw [if_pos (by decide +kernel)]; kernel_rfl) | (rw [if_neg (by decide +kernel)]; exact ⟨rfl, rfl⟩))
    (fun os started H enc _ => lifted os started H enc)

/-- ████ THE STATEMENT ████ -/
theorem proved : Rows.FnSignedKeepsMagnitudeScaleAndSignSaid :=
  over
#print axioms proved
end Go.Proofs.Qxb6003706a.fnSignedKeepsMagnitudeScaleAndSign
