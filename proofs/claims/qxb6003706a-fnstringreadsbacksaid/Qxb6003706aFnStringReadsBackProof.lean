/-
  The proof of Rows.FnStringReadsBackSaid: the shell that the kit's tool wrote for this function, its hole filled.
-/
import Derived.Test.Qxb6003706aRows
import Derived.WalkKit
import Derived.ProofKit
import Derived.OpenShut
import Derived.ShutString
import Derived.Test.Qxb6003706aReadBack
namespace Go.Proofs.Qxb6003706a.fnStringReadsBack
open Go.ChangeShapes Go.WideShapes Go.ChangeAt Go.RowKit
open Go.ChangeMaps (open_string shut_string)
set_option linter.unusedVariables false      -- a walk need not use every 'w<i>' (that an integer argument fits its kind)

theorem own : ownKnob Try.prog.godebug = none := by kernel_rfl

/-! ### STEP 1: THE WALK -/
set_option maxHeartbeats 2000000 in
theorem read3_neg (c : Int) (M S : Nat) (w : World) (h1 : -9223372036854775808 ≤ c) (h2 : c ≤ 9223372036854775807) (hM : absI c = M) (hS : S ≤ 18) (hc : c < 0) :
    Calls Try.prog 3 #[.int .i64 c, .int .i8 (S : Int)] w fun e w' => e = .returned (.bool true) ∧ Grown w w' := by
  have hMb : M ≤ 9223372036854775808 := by unfold absI at hM; split at hM <;> omega
  have HM := hide hM
  clear hM
  go_enter Try.func3, Try.ntmps3
  go_wp2_with fail
  refine (ZZmake_any _ _ _).mono ?_
  rintro e w' ⟨rfl, rfl⟩
  go_wp2_with fail
  refine (string_any c S M S _ h1 h2 HM.out rfl hS).mono ?_
  rintro e w3 ⟨b, rfl, hb, hg⟩
  obtain ⟨k, k1, k2, k3, k4, T⟩ := hb.text hS
  have hz0 := text_head (c := c) (M := M) k1
  obtain ⟨l, hl⟩ : ∃ l, l = (if c < 0 then [45] else []) ++ strN M S k := ⟨_, rfl⟩
  rw [← hl] at T hz0
  have hst : Hid (l.drop 1 = strN M S k) := by
    show _ = _
    rw [hl]; simp [hc]
  have hG := hide (growntrans ((Grown.refl w).alloc _ _) hg)
  have t1 := T.size
  have t2 : 0 < b.size := by rw [t1]; exact T.pos
  have t3 : b.size ≤ 21 := by rw [t1]; exact T.le
  have t4 : ((b.size : Int) == 0) = false := by rw [beq_eq_false_iff_ne]; omega
  have t5 : decide ((64 : Int) < (b.size : Int)) = false := by simp; omega
  have hat := T.at_
  have Hat := hide hat
  have T1 := hide t1
  have HK2 := hide k2
  have HK3 := hide k3
  have ha := hat 0 t2
  obtain ⟨v, hv⟩ : ∃ v, v = l.getD 0 0 := ⟨_, rfl⟩
  rw [← hv] at ha
  have hv45 : v = 45 ↔ c < 0 := by rw [hv]; exact hz0
  have e3 : v = 45 := hv45.2 hc
  subst e3
  clear hv45
  clear hb k2 k3 T hl hz0 t1 hg hv hat
  go_wp2_with fail
  clear ha
  go_loop [6, 8, 9, 10, 11, 12] (fun vi vv vd vf vs v1 => ∃ (i n m dn fr f : Nat) (sp : Bool), i ≤ b.size ∧ m ≤ 9223372036854775808 ∧ dn ≤ 19 ∧ fr ≤ 18 ∧ f < 256 ∧ vi = .int .i64 i ∧ vv = .int .u64 m ∧ vd = .int .i64 dn ∧ vf = .int .i64 fr ∧ vs = .bool sp ∧ v1 = .int .u8 f ∧ Hid (m = M / 10 ^ n ∧ Rd M S k n (l.drop i) dn fr sp ∧ (0 < dn → f = 48 + dg M (k - 1)))) (fun vi _ _ _ _ _ => b.size - (intOf vi).toNat)
  case atStart =>
    refine ⟨1, k, 0, 0, 0, 0, false, by omega, by omega, by omega, by omega, by omega, rfl, rfl, rfl, rfl, rfl, rfl, HK2.out.symm, ?_, fun h => by omega⟩
    rw [hst.out]
    exact Rd.start k1
  case round =>
    obtain ⟨i, n, m, dn, fr, f, sp, hi, hm, hdn, hfr, hf, rfl, rfl, rfl, rfl, rfl, rfl, HR⟩ := hrel
    by_cases hlt : i < b.size
    · have ha := Hat.out i hlt
      obtain ⟨v, hv⟩ : ∃ v, v = l.getD i 0 := ⟨_, rfl⟩
      rw [← hv] at ha
      have hil : i < l.length := by rw [← T1.out]; exact hlt
      have hdrop : l.drop i = v :: l.drop (i + 1) := by
        rw [List.drop_eq_getElem_cons hil, hv]
        simp [List.getD, hil]
      have hrd := HR.out.2.1
      rw [hdrop] at hrd
      have hm1 := HR.out.1
      have hff := HR.out.2.2
      rcases hrd.next k1 with ⟨e1, e2, e3, e4⟩ | ⟨n', e1, e2, e3⟩
      · subst e1 e2
        have E4 := hide e4
        have HM1 := hide hm1
        have HFF := hide hff
        clear hrd hdrop hv e4 hm1 hff HR hil
        go_wp2_with fail
        go_round
        case rel => exact ⟨i + 1, n, m, dn, fr, f, true, by omega, hm, hdn, hfr, hf, by go_num, rfl, rfl, rfl, rfl, rfl, HM1.out, E4.out, HFF.out⟩
        case measure => simp [intOf]; omega
      · subst e1
        have hd10 : dg M n' < 10 := Nat.mod_lt _ (by omega)
        have hvs := val_step M n'
        rw [← hm1] at hvs
        have hmm : M / 10 ^ n' ≤ 9223372036854775808 := Nat.le_trans (Nat.div_le_self _ _) hMb
        obtain ⟨d, hd⟩ : ∃ d, d = dg M n' := ⟨_, rfl⟩
        rw [← hd] at e2 hd10 hvs
        obtain ⟨m', hm'⟩ : ∃ m', m' = M / 10 ^ n' := ⟨_, rfl⟩
        rw [← hm'] at hvs hmm
        have HM' := hide hm'
        have HD := hide hd
        subst e2
        have hq1 : m ≤ 922337203685477580 := by omega
        have HFF := hide hff
        have hq2 : Hid (m * 10 + d = m') := hvs
        rcases e3 with ⟨rfl, e4⟩ | ⟨rfl, e5, e4⟩
        · have E4 := hide e4
          have hfr' : fr + 1 ≤ 18 := by
            rcases e4.cs with ⟨_, _, _, _, h⟩ | ⟨_, _, _, _, _, h⟩ | ⟨_, _, _, h, _⟩
            · cases h
            · cases h
            · omega
          clear hrd hdrop hv e4 hm1 HR hil hm' hd hff hvs
          go_wp2_with fail
          go_round
          case rel => exact ⟨i + 1, n', m', dn, fr + 1, f, true, by omega, by omega, hdn, hfr', hf, by go_num, by have := hq2.out; go_num, rfl, by go_num, rfl, rfl, HM'.out, E4.out, HFF.out⟩
          case measure => simp [intOf]; omega
        · have E4 := hide e4
          have hdn' : dn + 1 ≤ 19 := by
            rcases e4.cs with ⟨_, _, h, _⟩ | ⟨_, _, _, h, _⟩ | ⟨_, _, h, _⟩ <;> omega
          have hnk := hrd.nk
          by_cases hd0 : dn = 0
          · subst hd0
            have hkn : Hid (48 + d = 48 + dg M (k - 1)) := by
              show _ = _
              rw [hd]
              congr 2
              omega
            clear hrd hdrop hv e4 hm1 HR hil hm' hd hff hvs e5
            go_wp2_with fail
            go_round
            case rel => exact ⟨i + 1, n', m', 0 + 1, fr, 48 + d, false, by omega, by omega, hdn', hfr, by omega, by go_num, by have := hq2.out; go_num, by go_num, rfl, rfl, by go_num, HM'.out, E4.out, fun _ => hkn.out⟩
            case measure => simp [intOf]; omega
          · have hd1 : 1 ≤ dn := by omega
            have Hff2 := hide (hff (by omega))
            clear hrd hdrop hv e4 hm1 HR hil hm' hd hff hvs e5 hd0
            go_wp2_with fail
            go_round
            case rel => exact ⟨i + 1, n', m', dn + 1, fr, f, false, by omega, by omega, hdn', hfr, hf, by go_num, by have := hq2.out; go_num, by go_num, rfl, rfl, rfl, HM'.out, E4.out, fun _ => Hff2.out⟩
            case measure => simp [intOf]; omega
    · have hdrop : l.drop i = [] := List.drop_eq_nil_of_le (by rw [← T1.out]; omega)
      have hrd := HR.out.2.1
      rw [hdrop] at hrd
      obtain ⟨r1, r2, r3, r4⟩ := hrd.done
      have hmM : m = M := by rw [HR.out.1, r1]; simp
      have hmM' : Hid ((m : Int) = absI c) := by
        show _ = _
        rw [HM.out, hmM]
      have hf48 : 1 < dn → f ≠ 48 := by
        intro hdn1 hf48
        have h5 := HR.out.2.2 (by omega)
        have h6 : 0 < M / 10 ^ (k - 1) := by
          rcases HK3.out with h | h
          · omega
          · exact h
        have h7 := HK2.out
        rw [show k = (k - 1) + 1 by omega, div_succ] at h7
        have h8 : dg M (k - 1) = M / 10 ^ (k - 1) := by unfold dg; omega
        omega
      have hsp1 : 0 < S → sp = true := fun h => by rw [r4]; simp [h]
      have hsp0 : ¬ 0 < S → sp = false := fun h => by rw [r4]; simp; omega
      have hfrS : fr = S := r3
      have hdn1 : 1 ≤ dn := by omega
      have hdc : decide (c < 0) = true := by simp; omega
      clear hrd hdrop HR r1 r2 r3 r4 hmM
      subst hfrS
      by_cases hS0 : 0 < fr
      · have hsp := hsp1 hS0
        subst hsp
        clear hsp1 hsp0
        by_cases hd1 : 1 < dn
        · have e48 : ((f : Int) == 48) = false := by rw [beq_eq_false_iff_ne]; have := hf48 hd1; omega
          clear hf48
          go_wp2_with fail
          refine (abs_any c _ h1 h2).mono ?_
          rw [← hmM'.out]
          rintro e w4 ⟨rfl, rfl⟩
          go_wp2_with fail
          go_ret
          exact ⟨rfl, hG.out⟩
        · have hd2 : dn ≤ 1 := by omega
          clear hf48 hd1
          go_wp2_with fail
          refine (abs_any c _ h1 h2).mono ?_
          rw [← hmM'.out]
          rintro e w4 ⟨rfl, rfl⟩
          go_wp2_with fail
          go_ret
          exact ⟨rfl, hG.out⟩
      · have hsp := hsp0 hS0
        subst hsp
        clear hsp1 hsp0
        by_cases hd1 : 1 < dn
        · have e48 : ((f : Int) == 48) = false := by rw [beq_eq_false_iff_ne]; have := hf48 hd1; omega
          clear hf48
          go_wp2_with fail
          refine (abs_any c _ h1 h2).mono ?_
          rw [← hmM'.out]
          rintro e w4 ⟨rfl, rfl⟩
          go_wp2_with fail
          go_ret
          exact ⟨rfl, hG.out⟩
        · have hd2 : dn ≤ 1 := by omega
          clear hf48 hd1
          go_wp2_with fail
          refine (abs_any c _ h1 h2).mono ?_
          rw [← hmM'.out]
          rintro e w4 ⟨rfl, rfl⟩
          go_wp2_with fail
          go_ret
          exact ⟨rfl, hG.out⟩

set_option maxHeartbeats 2000000 in
theorem read3_pos (c : Int) (M S : Nat) (w : World) (h1 : -9223372036854775808 ≤ c) (h2 : c ≤ 9223372036854775807) (hM : absI c = M) (hS : S ≤ 18) (hc : ¬ c < 0) :
    Calls Try.prog 3 #[.int .i64 c, .int .i8 (S : Int)] w fun e w' => e = .returned (.bool true) ∧ Grown w w' := by
  have hMb : M ≤ 9223372036854775808 := by unfold absI at hM; split at hM <;> omega
  have HM := hide hM
  clear hM
  go_enter Try.func3, Try.ntmps3
  go_wp2_with fail
  refine (ZZmake_any _ _ _).mono ?_
  rintro e w' ⟨rfl, rfl⟩
  go_wp2_with fail
  refine (string_any c S M S _ h1 h2 HM.out rfl hS).mono ?_
  rintro e w3 ⟨b, rfl, hb, hg⟩
  obtain ⟨k, k1, k2, k3, k4, T⟩ := hb.text hS
  have hz0 := text_head (c := c) (M := M) k1
  obtain ⟨l, hl⟩ : ∃ l, l = (if c < 0 then [45] else []) ++ strN M S k := ⟨_, rfl⟩
  rw [← hl] at T hz0
  have hst : Hid (l.drop 0 = strN M S k) := by
    show _ = _
    rw [hl]; simp [hc]
  have hG := hide (growntrans ((Grown.refl w).alloc _ _) hg)
  have t1 := T.size
  have t2 : 0 < b.size := by rw [t1]; exact T.pos
  have t3 : b.size ≤ 21 := by rw [t1]; exact T.le
  have t4 : ((b.size : Int) == 0) = false := by rw [beq_eq_false_iff_ne]; omega
  have t5 : decide ((64 : Int) < (b.size : Int)) = false := by simp; omega
  have hat := T.at_
  have Hat := hide hat
  have T1 := hide t1
  have HK2 := hide k2
  have HK3 := hide k3
  have ha := hat 0 t2
  obtain ⟨v, hv⟩ : ∃ v, v = l.getD 0 0 := ⟨_, rfl⟩
  rw [← hv] at ha
  have hv45 : v = 45 ↔ c < 0 := by rw [hv]; exact hz0
  have e3 : ((v : Int) == 45) = false := by rw [beq_eq_false_iff_ne]; intro h; have := hv45.1 (by omega); omega
  clear hv45
  clear hb k2 k3 T hl hz0 t1 hg hv hat
  go_wp2_with fail
  clear ha
  go_loop [6, 8, 9, 10, 11, 12] (fun vi vv vd vf vs v1 => ∃ (i n m dn fr f : Nat) (sp : Bool), i ≤ b.size ∧ m ≤ 9223372036854775808 ∧ dn ≤ 19 ∧ fr ≤ 18 ∧ f < 256 ∧ vi = .int .i64 i ∧ vv = .int .u64 m ∧ vd = .int .i64 dn ∧ vf = .int .i64 fr ∧ vs = .bool sp ∧ v1 = .int .u8 f ∧ Hid (m = M / 10 ^ n ∧ Rd M S k n (l.drop i) dn fr sp ∧ (0 < dn → f = 48 + dg M (k - 1)))) (fun vi _ _ _ _ _ => b.size - (intOf vi).toNat)
  case atStart =>
    refine ⟨0, k, 0, 0, 0, 0, false, by omega, by omega, by omega, by omega, by omega, rfl, rfl, rfl, rfl, rfl, rfl, HK2.out.symm, ?_, fun h => by omega⟩
    rw [hst.out]
    exact Rd.start k1
  case round =>
    obtain ⟨i, n, m, dn, fr, f, sp, hi, hm, hdn, hfr, hf, rfl, rfl, rfl, rfl, rfl, rfl, HR⟩ := hrel
    by_cases hlt : i < b.size
    · have ha := Hat.out i hlt
      obtain ⟨v, hv⟩ : ∃ v, v = l.getD i 0 := ⟨_, rfl⟩
      rw [← hv] at ha
      have hil : i < l.length := by rw [← T1.out]; exact hlt
      have hdrop : l.drop i = v :: l.drop (i + 1) := by
        rw [List.drop_eq_getElem_cons hil, hv]
        simp [List.getD, hil]
      have hrd := HR.out.2.1
      rw [hdrop] at hrd
      have hm1 := HR.out.1
      have hff := HR.out.2.2
      rcases hrd.next k1 with ⟨e1, e2, e3, e4⟩ | ⟨n', e1, e2, e3⟩
      · subst e1 e2
        have E4 := hide e4
        have HM1 := hide hm1
        have HFF := hide hff
        clear hrd hdrop hv e4 hm1 hff HR hil
        go_wp2_with fail
        go_round
        case rel => exact ⟨i + 1, n, m, dn, fr, f, true, by omega, hm, hdn, hfr, hf, by go_num, rfl, rfl, rfl, rfl, rfl, HM1.out, E4.out, HFF.out⟩
        case measure => simp [intOf]; omega
      · subst e1
        have hd10 : dg M n' < 10 := Nat.mod_lt _ (by omega)
        have hvs := val_step M n'
        rw [← hm1] at hvs
        have hmm : M / 10 ^ n' ≤ 9223372036854775808 := Nat.le_trans (Nat.div_le_self _ _) hMb
        obtain ⟨d, hd⟩ : ∃ d, d = dg M n' := ⟨_, rfl⟩
        rw [← hd] at e2 hd10 hvs
        obtain ⟨m', hm'⟩ : ∃ m', m' = M / 10 ^ n' := ⟨_, rfl⟩
        rw [← hm'] at hvs hmm
        have HM' := hide hm'
        have HD := hide hd
        subst e2
        have hq1 : m ≤ 922337203685477580 := by omega
        have HFF := hide hff
        have hq2 : Hid (m * 10 + d = m') := hvs
        rcases e3 with ⟨rfl, e4⟩ | ⟨rfl, e5, e4⟩
        · have E4 := hide e4
          have hfr' : fr + 1 ≤ 18 := by
            rcases e4.cs with ⟨_, _, _, _, h⟩ | ⟨_, _, _, _, _, h⟩ | ⟨_, _, _, h, _⟩
            · cases h
            · cases h
            · omega
          clear hrd hdrop hv e4 hm1 HR hil hm' hd hff hvs
          go_wp2_with fail
          go_round
          case rel => exact ⟨i + 1, n', m', dn, fr + 1, f, true, by omega, by omega, hdn, hfr', hf, by go_num, by have := hq2.out; go_num, rfl, by go_num, rfl, rfl, HM'.out, E4.out, HFF.out⟩
          case measure => simp [intOf]; omega
        · have E4 := hide e4
          have hdn' : dn + 1 ≤ 19 := by
            rcases e4.cs with ⟨_, _, h, _⟩ | ⟨_, _, _, h, _⟩ | ⟨_, _, h, _⟩ <;> omega
          have hnk := hrd.nk
          by_cases hd0 : dn = 0
          · subst hd0
            have hkn : Hid (48 + d = 48 + dg M (k - 1)) := by
              show _ = _
              rw [hd]
              congr 2
              omega
            clear hrd hdrop hv e4 hm1 HR hil hm' hd hff hvs e5
            go_wp2_with fail
            go_round
            case rel => exact ⟨i + 1, n', m', 0 + 1, fr, 48 + d, false, by omega, by omega, hdn', hfr, by omega, by go_num, by have := hq2.out; go_num, by go_num, rfl, rfl, by go_num, HM'.out, E4.out, fun _ => hkn.out⟩
            case measure => simp [intOf]; omega
          · have hd1 : 1 ≤ dn := by omega
            have Hff2 := hide (hff (by omega))
            clear hrd hdrop hv e4 hm1 HR hil hm' hd hff hvs e5 hd0
            go_wp2_with fail
            go_round
            case rel => exact ⟨i + 1, n', m', dn + 1, fr, f, false, by omega, by omega, hdn', hfr, hf, by go_num, by have := hq2.out; go_num, by go_num, rfl, rfl, rfl, HM'.out, E4.out, fun _ => Hff2.out⟩
            case measure => simp [intOf]; omega
    · have hdrop : l.drop i = [] := List.drop_eq_nil_of_le (by rw [← T1.out]; omega)
      have hrd := HR.out.2.1
      rw [hdrop] at hrd
      obtain ⟨r1, r2, r3, r4⟩ := hrd.done
      have hmM : m = M := by rw [HR.out.1, r1]; simp
      have hmM' : Hid ((m : Int) = absI c) := by
        show _ = _
        rw [HM.out, hmM]
      have hf48 : 1 < dn → f ≠ 48 := by
        intro hdn1 hf48
        have h5 := HR.out.2.2 (by omega)
        have h6 : 0 < M / 10 ^ (k - 1) := by
          rcases HK3.out with h | h
          · omega
          · exact h
        have h7 := HK2.out
        rw [show k = (k - 1) + 1 by omega, div_succ] at h7
        have h8 : dg M (k - 1) = M / 10 ^ (k - 1) := by unfold dg; omega
        omega
      have hsp1 : 0 < S → sp = true := fun h => by rw [r4]; simp [h]
      have hsp0 : ¬ 0 < S → sp = false := fun h => by rw [r4]; simp; omega
      have hfrS : fr = S := r3
      have hdn1 : 1 ≤ dn := by omega
      have hdc : decide (c < 0) = false := by simp; omega
      clear hrd hdrop HR r1 r2 r3 r4 hmM
      subst hfrS
      by_cases hS0 : 0 < fr
      · have hsp := hsp1 hS0
        subst hsp
        clear hsp1 hsp0
        by_cases hd1 : 1 < dn
        · have e48 : ((f : Int) == 48) = false := by rw [beq_eq_false_iff_ne]; have := hf48 hd1; omega
          clear hf48
          go_wp2_with fail
          refine (abs_any c _ h1 h2).mono ?_
          rw [← hmM'.out]
          rintro e w4 ⟨rfl, rfl⟩
          go_wp2_with fail
          go_ret
          exact ⟨rfl, hG.out⟩
        · have hd2 : dn ≤ 1 := by omega
          clear hf48 hd1
          go_wp2_with fail
          refine (abs_any c _ h1 h2).mono ?_
          rw [← hmM'.out]
          rintro e w4 ⟨rfl, rfl⟩
          go_wp2_with fail
          go_ret
          exact ⟨rfl, hG.out⟩
      · have hsp := hsp0 hS0
        subst hsp
        clear hsp1 hsp0
        by_cases hd1 : 1 < dn
        · have e48 : ((f : Int) == 48) = false := by rw [beq_eq_false_iff_ne]; have := hf48 hd1; omega
          clear hf48
          go_wp2_with fail
          refine (abs_any c _ h1 h2).mono ?_
          rw [← hmM'.out]
          rintro e w4 ⟨rfl, rfl⟩
          go_wp2_with fail
          go_ret
          exact ⟨rfl, hG.out⟩
        · have hd2 : dn ≤ 1 := by omega
          clear hf48 hd1
          go_wp2_with fail
          refine (abs_any c _ h1 h2).mono ?_
          rw [← hmM'.out]
          rintro e w4 ⟨rfl, rfl⟩
          go_wp2_with fail
          go_ret
          exact ⟨rfl, hG.out⟩

theorem walk (a0 : Int) (a1 : Int) (w0 : (Lit.int .i64 a0).wf = true) (w1 : (Lit.int .i8 a1).wf = true) (w : World) :
    Calls Try.prog 3 #[.int .i64 a0, .int .i8 a1] w fun e w' => e = .returned (.bool true) ∧ Grown w w' := by
  have b0 := bounds_i64 w0
  have b1 := bounds_i8 w1
  by_cases h3 : a1 < 0
  · go_enter Try.func3, Try.ntmps3
    go_wp2
    go_ret
    exact ⟨rfl, by repeat (first | exact Grown.refl _ | apply Grown.drew | apply Grown.alloc)⟩
  by_cases h4 : 18 < a1
  · go_enter Try.func3, Try.ntmps3
    go_wp2
    go_ret
    exact ⟨rfl, by repeat (first | exact Grown.refl _ | apply Grown.drew | apply Grown.alloc)⟩
  obtain ⟨S, rfl⟩ := Int.eq_ofNat_of_zero_le (show 0 ≤ a1 by omega)
  obtain ⟨M, hM⟩ := Int.eq_ofNat_of_zero_le (show 0 ≤ absI a0 by unfold absI; split <;> omega)
  by_cases hc : a0 < 0
  · exact read3_neg a0 M S w b0.1 b0.2 hM (by omega) hc
  · exact read3_pos a0 M S w b0.1 b0.2 hM (by omega) hc

/-! ### THE ROW's STEP: WRITTEN OUT: LEAVE IT -/
set_option maxRecDepth 100000 in
theorem lifted (os : Os) (started : os.Started) (H : Type) (enc : TypeId × Value → H) :
    ReturnsInHanded {} Try.checked os 3 .any (Rows.fnStringReadsBackSpec.pre6 enc Try.prog Try.f3 Rows.fnStringReadsBackRow.domain false) (Rows.fnStringReadsBackSpec.post enc Try.prog Try.f3 false true false false) := by
  refine returnsInHanded_of_change (C := Try.checked) own started (by kernel_rfl) Try.func3
    (ChangeSpec.witness6 (enc := enc) (C := Try.checked) false ⟨#[], #[.int .i64 0, .int .i8 0], []⟩ 8 (by kernel_rfl) (by kernel_rfl) (by kernel_rfl) (by kernel_rfl)) ?_
  intro W base args ds gs before hval0 hW hcnd _
  have hval : ∀ (j : Nat) t v, Try.f3.params[j]? = some t → args[j]? = some v → Value.okWide Try.prog W .any base t v := hval0
  have hW' := hW
  obtain ⟨p, q, hA0, hV, rfl, hfz, hnd⟩ := hW
  have hA : DataW.TrodAll enc Try.prog W 0 (fun _ => true) true Try.f3.params.toList args.toList ds p := hA0
  rw [Try.params3] at hA hval
  obtain ⟨v0, vs0, d0, ds0, p0, q0, hargs, rfl, rfl, h0, r0⟩ := trodAll_cons hA
  obtain ⟨v1, vs1, d1, ds1, p1, q1, rfl, rfl, rfl, h1, r1⟩ := trodAll_cons r0
  obtain ⟨rfl, rfl, rfl⟩ := trodAll_nil r1
  obtain rfl : args = #[v0, v1] := by cases args; simp_all
  obtain ⟨rfl, rfl⟩ := trodVars_none hV
  obtain ⟨a0, rfl, rfl, rfl, w0⟩ := open_int Try.underlying2 (hval 0 2 v0 rfl rfl) h0
  obtain ⟨a1, rfl, rfl, rfl, w1⟩ := open_int Try.underlying22 (hval 1 22 v1 rfl rfl) h1
  clear hA0 hval0
  simp only [List.append_nil] at hW'
  refine (walk a0 a1 w0 w1 W).mono fun e W' ⟨he, hg⟩ => ?_
  subst he
  exact ⟨_, rfl, post_of_same (pa := []) (pv := []) hW' (fun _ _ _ => (trodAll_cons_mk (shut_bool Try.underlying4 _) trodAll_mk0)) (fun sp _ => (trodAll_cons_mk (shut_int Try.underlying2 w0) (trodAll_cons_mk (shut_int Try.underlying22 w1) trodAll_mk0))) (fun _ _ => rfl) rfl
    (hg.frame _) hg.2.1 (ok_one (by kernel_rfl) rfl (okWide_bool_mk Try.underlying4 _))⟩

theorem over : Rows.fnStringReadsBackRow.holds Try.pinned (OpenSpec.ofChange Rows.fnStringReadsBackSpec) :=
  OpenClaim.holds_of_wide 3 Try.f3 rfl rfl rfl rfl rfl rfl rfl ⟨rfl, rfl, rfl, rfl, rfl⟩ rfl rfl rfl rfl rfl (by kernel_rfl) Try.func3 (by kernel_rfl)
    (of_decide_eq_true (by kernel_rfl)) (by unfold Func.isWrapper; first | (rw [if_pos (by decide +kernel)]; kernel_rfl) | (rw [if_neg (by decide +kernel)]; exact ⟨rfl, rfl⟩))
    (fun os started H enc _ => lifted os started H enc)

/-- ████ THE STATEMENT ████ -/
theorem proved : Rows.FnStringReadsBackSaid :=
  over
#print axioms proved
end Go.Proofs.Qxb6003706a.fnStringReadsBack
