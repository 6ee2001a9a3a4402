/-
  The proof of Rows.FnSignAgreesWithStringSaid: the shell that the kit's tool wrote for this function, its hole filled.
-/
import Derived.Test.Qxb6003706aRows
import Derived.WalkKit
import Derived.ProofKit
import Derived.OpenShut
import Derived.ShutString
import Derived.Test.Qxb6003706aSignStr
namespace Go.Proofs.Qxb6003706a.fnSignAgreesWithString
open Go.ChangeShapes Go.WideShapes Go.ChangeAt Go.RowKit
open Go.ChangeMaps (open_string shut_string)
set_option linter.unusedVariables false      -- a walk need not use every 'w<i>' (that an integer argument fits its kind)

theorem own : ownKnob Try.prog.godebug = none := by kernel_rfl

/-! ### STEP 1: THE WALK -/
set_option maxHeartbeats 1000000 in
theorem sign4 (c : Int) (M S : Nat) (w : World) (h1 : -9223372036854775808 ≤ c) (h2 : c ≤ 9223372036854775807) (hM : absI c = M) (hS : S ≤ 18) :
    Calls Try.prog 4 #[.int .i64 c, .int .i8 (S : Int)] w fun e w' => e = .returned (.bool true) ∧ Grown w w' := by
  have HM := hide hM
  clear hM
  go_enter Try.func4, Try.ntmps4
  go_wp2_with fail
  refine (ZZmake_any _ _ _).mono ?_
  rintro e w' ⟨rfl, rfl⟩
  go_wp2_with fail
  refine (string_any c S M S _ h1 h2 HM.out rfl hS).mono ?_
  rintro e w3 ⟨b, rfl, hb, hg⟩
  obtain ⟨k, k1, k2, k3, k4, T⟩ := hb.text hS
  have hz0 := text_head (c := c) (M := M) k1
  have hal := text_all (c := c) (S := S) k2
  obtain ⟨l, hl⟩ : ∃ l, l = (if c < 0 then [45] else []) ++ strN M S k := ⟨_, rfl⟩
  rw [← hl] at T hz0 hal
  have G := hide hg
  have HT := hide T
  have HZ := hide hz0
  have HA := hide hal
  have t1 := T.size
  have t2 : 0 < b.size := by rw [t1]; exact T.pos
  have t3 : b.size ≤ 21 := by rw [t1]; exact T.le
  have hat := T.at_
  have hlt := T.lt
  have T1 := hide t1
  clear hb k1 k2 k3 k4 T hl hz0 hal t1
  have d0 : w3.cell? ⟨w.heap.size + 1, 0, none⟩ = some (.int .i64 c) := (hg.1.cell (b := w.heap.size + 1) (off := 0) (by simp) (fun h => h)).trans (by simp)
  have d1 : w3.cell? ⟨w.heap.size + 1, 1, none⟩ = some (.int .i8 (S : Int)) := (hg.1.cell (b := w.heap.size + 1) (off := 1) (by simp) (fun h => h)).trans (by simp)
  have hG := hide (growntrans (((Grown.refl w).alloc _ _).alloc _ _) hg)
  clear hg G
  go_wp2_with fail
  refine (sign_any _ _ _).mono ?_
  rintro e w4 ⟨rfl, rfl⟩
  go_wp2_with fail
  go_loop [8, 9] (fun z i => ∃ j : Nat, j ≤ b.size ∧ i = .int .i64 j ∧ z = .bool ((l.take j).all nz)) (fun _ i => b.size - (intOf i).toNat)
  case atStart => exact ⟨0, Nat.zero_le _, rfl, rfl⟩
  case round =>
    obtain ⟨j, hj, rfl, rfl⟩ := hrel
    by_cases hlt' : j < b.size
    · have HS := hide (take_all l j (by rw [← T1.out]; exact hlt'))
      have ha := hat j hlt'
      obtain ⟨v, hv⟩ : ∃ v, v = l.getD j 0 := ⟨_, rfl⟩
      rw [← hv] at ha HS
      clear hv
      obtain ⟨Z, hZ⟩ : ∃ Z, Z = (l.take j).all nz := ⟨_, rfl⟩
      rw [← hZ] at HS ⊢
      clear hZ hat
      by_cases hd : 49 ≤ v ∧ v ≤ 57
      · obtain ⟨q1, q2⟩ := hd
        go_wp2_with fail
        go_round
        case rel => exact ⟨j + 1, by omega, by go_num, by rw [HS.out]; simp [nz, q1, q2]⟩
        case measure => simp [intOf]; omega
      · by_cases q1 : 49 ≤ v
        · have q2 : 57 < v := by omega
          clear hd
          go_wp2_with fail
          go_round
          case rel => exact ⟨j + 1, by omega, by go_num, by rw [HS.out]; simp [nz, q1]; omega⟩
          case measure => simp [intOf]; omega
        · have q2 : v < 49 := by omega
          clear hd q1
          go_wp2_with fail
          go_round
          case rel => exact ⟨j + 1, by omega, by go_num, by rw [HS.out]; simp [nz]; omega⟩
          case measure => simp [intOf]; omega
    · have hfull : (l.take j).all nz = decide (M = 0) := by
        rw [List.take_of_length_le (by rw [← T1.out]; omega)]; exact HA.out
      rw [hfull]
      clear hfull
      have ha := hat 0 t2
      obtain ⟨v, hv⟩ : ∃ v, v = l.getD 0 0 := ⟨_, rfl⟩
      rw [← hv] at ha
      have hv45 : v = 45 ↔ c < 0 := by rw [hv]; exact HZ.out
      clear hv hat hlt
      have hMc : absI c = M := HM.out
      rcases (show c < 0 ∨ c = 0 ∨ 0 < c by omega) with hc | hc | hc
      · have e1 : sgn c = -1 := by unfold sgn; rw [if_pos hc]
        have e2 : decide (M = 0) = false := by unfold absI at hMc; rw [if_pos hc] at hMc; simp; omega
        have e3 : v = 45 := hv45.2 hc
        subst e3
        rw [e1, e2]
        clear hv45 e1 e2 hMc
        go_wp2_with fail
        go_ret
        exact ⟨rfl, by repeat (first | exact hG.out | apply Grown.drew | apply Grown.alloc)⟩
      · subst hc
        have e1 : sgn 0 = 0 := rfl
        have e2 : decide (M = 0) = true := by unfold absI at hMc; simp at hMc; simp; omega
        have e3 : ((v : Int) == 45) = false := by rw [beq_eq_false_iff_ne]; intro h; have := hv45.1 (by omega); omega
        rw [e1, e2]
        clear hv45 e1 e2 hMc
        go_wp2_with fail
        go_ret
        exact ⟨rfl, by repeat (first | exact hG.out | apply Grown.drew | apply Grown.alloc)⟩
      · have e1 : sgn c = 1 := by unfold sgn; rw [if_neg (by omega), if_pos hc]
        have e2 : decide (M = 0) = false := by unfold absI at hMc; rw [if_neg (by omega)] at hMc; simp; omega
        have e3 : ((v : Int) == 45) = false := by rw [beq_eq_false_iff_ne]; intro h; have := hv45.1 (by omega); omega
        rw [e1, e2]
        clear hv45 e1 e2 hMc
        go_wp2_with fail
        go_ret
        exact ⟨rfl, by repeat (first | exact hG.out | apply Grown.drew | apply Grown.alloc)⟩

theorem walk (a0 : Int) (a1 : Int) (w0 : (Lit.int .i64 a0).wf = true) (w1 : (Lit.int .i8 a1).wf = true) (w : World) :
    Calls Try.prog 4 #[.int .i64 a0, .int .i8 a1] w fun e w' => e = .returned (.bool true) ∧ Grown w w' := by
  have b0 := bounds_i64 w0
  have b1 := bounds_i8 w1
  by_cases h3 : a1 < 0
  · go_enter Try.func4, Try.ntmps4
    go_wp2
    go_ret
    exact ⟨rfl, by repeat (first | exact Grown.refl _ | apply Grown.drew | apply Grown.alloc)⟩
  by_cases h4 : 18 < a1
  · go_enter Try.func4, Try.ntmps4
    go_wp2
    go_ret
    exact ⟨rfl, by repeat (first | exact Grown.refl _ | apply Grown.drew | apply Grown.alloc)⟩
  obtain ⟨S, rfl⟩ := Int.eq_ofNat_of_zero_le (show 0 ≤ a1 by omega)
  obtain ⟨M, hM⟩ := Int.eq_ofNat_of_zero_le (show 0 ≤ absI a0 by unfold absI; split <;> omega)
  exact (sign4 a0 M S w b0.1 b0.2 hM (by omega))

/-! ### THE ROW's STEP: WRITTEN OUT: LEAVE IT -/
set_option maxRecDepth 100000 in
theorem lifted (os : Os) (started : os.Started) (H : Type) (enc : TypeId × Value → H) :
    ReturnsInHanded {} Try.checked os 4 .any (Rows.fnSignAgreesWithStringSpec.pre6 enc Try.prog Try.f4 Rows.fnSignAgreesWithStringRow.domain false) (Rows.fnSignAgreesWithStringSpec.post enc Try.prog Try.f4 false true false false) := by
  refine returnsInHanded_of_change (C := Try.checked) own started (by kernel_rfl) Try.func4
    (ChangeSpec.witness6 (enc := enc) (C := Try.checked) false ⟨#[], #[.int .i64 0, .int .i8 0], []⟩ 8 (by kernel_rfl) (by kernel_rfl) (by kernel_rfl) (by kernel_rfl)) ?_
  intro W base args ds gs before hval0 hW hcnd _
  have hval : ∀ (j : Nat) t v, Try.f4.params[j]? = some t → args[j]? = some v → Value.okWide Try.prog W .any base t v := hval0
  have hW' := hW
  obtain ⟨p, q, hA0, hV, rfl, hfz, hnd⟩ := hW
  have hA : DataW.TrodAll enc Try.prog W 0 (fun _ => true) true Try.f4.params.toList args.toList ds p := hA0
  rw [Try.params4] at hA hval
  obtain ⟨v0, vs0, d0, ds0, p0, q0, hargs, rfl, rfl, h0, r0⟩ := trodAll_cons hA
  obtain ⟨v1, vs1, d1, ds1, p1, q1, rfl, rfl, rfl, h1, r1⟩ := trodAll_cons r0
  obtain ⟨rfl, rfl, rfl⟩ := trodAll_nil r1
  obtain rfl : args = #[v0, v1] := by cases args; simp_all
  obtain ⟨rfl, rfl⟩ := trodVars_none hV
  obtain ⟨a0, rfl, rfl, rfl, w0⟩ := open_int Try.underlying2 (hval 0 2 v0 rfl rfl) h0
  obtain ⟨a1, rfl, rfl, rfl, w1⟩ := open_int Try.underlying22 (hval 1 22 v1 rfl rfl) h1
  clear hA0 hval0
  simp only [List.append_nil] at hW'
  refine (walk a0 a1 w0 w1 W).mono fun e W' ⟨he, hg⟩ => ?_
  subst he
  exact ⟨_, rfl, post_of_same (pa := []) (pv := []) hW' (fun _ _ _ => (trodAll_cons_mk (shut_bool Try.underlying4 _) trodAll_mk0)) (fun sp _ => (trodAll_cons_mk (shut_int Try.underlying2 w0) (trodAll_cons_mk (shut_int Try.underlying22 w1) trodAll_mk0))) (fun _ _ => rfl) rfl
    (hg.frame _) hg.2.1 (ok_one (by kernel_rfl) rfl (okWide_bool_mk Try.underlying4 _))⟩

theorem over : Rows.fnSignAgreesWithStringRow.holds Try.pinned (OpenSpec.ofChange Rows.fnSignAgreesWithStringSpec) :=
  OpenClaim.holds_of_wide 4 Try.f4 rfl rfl rfl rfl rfl rfl rfl ⟨rfl, rfl, rfl, rfl, rfl⟩ rfl rfl rfl rfl rfl (by kernel_rfl) Try.func4 (by kernel_rfl)
    (of_decide_eq_true (by kernel_rfl)) (by unfold Func.isWrapper; first | (rw [if_pos (by decide +kernel)]; kernel_rfl) | (rw [if_neg (by decide +kernel)]; exact ⟨rfl, rfl⟩))
    (fun os started H enc _ => lifted os started H enc)

/-- ████ THE STATEMENT ████ -/
theorem proved : Rows.FnSignAgreesWithStringSaid :=
  over
#print axioms proved
end Go.Proofs.Qxb6003706a.fnSignAgreesWithString
