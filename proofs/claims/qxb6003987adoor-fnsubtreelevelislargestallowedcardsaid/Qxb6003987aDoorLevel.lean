/-
  THE WALKS OF subtreeLevel, zzLevelAllowed AND THE LAW.
-/
import Derived.Test.Qxb6003987aDoorBits
import Derived.Test.Qxb6003987aDoorPlain
namespace Go.Proofs.Qxb6003987aDoor
open Go.RowKit

theorem pw (k : Nat) (hk : k ≤ 63) : ∃ p : Nat, 2 ^ k = p ∧ IntKind.u64.wrap ((2 : Int) ^ k) = (p : Int) ∧ p ≤ 9223372036854775808 ∧ 0 < p := by
  have h : 2 ^ k ≤ 2 ^ 63 := Nat.pow_le_pow_right (by decide) hk
  have h2 := Nat.two_pow_pos k
  have e : ((2 : Int) ^ k) = ((2 ^ k : Nat) : Int) := by simp
  rw [e]
  generalize 2 ^ k = p at h h2 ⊢
  refine ⟨p, rfl, ?_, by omega, h2⟩
  rw [IntKind.wrap_u64]
  omega

theorem andMask (s k p : Nat) (hs : s < 18446744073709551616) (hp : 2 ^ k = p) (he : IntKind.u64.wrap ((2 : Int) ^ k) = (p : Int)) (h1 : p ≤ 9223372036854775808) (h2 : 0 < p) :
    bits BinOp.and IntKind.u64 (s : Int) (IntKind.u64.wrap (IntKind.u64.wrap ((2 : Int) ^ k) - 1)) = ((s % p : Nat) : Int) := by
  have e1 : IntKind.u64.wrap (IntKind.u64.wrap ((2 : Int) ^ k) - 1) = ((p - 1 : Nat) : Int) := by rw [he, IntKind.wrap_u64]; omega
  rw [e1, bits_and_u64_nat s _ hs (by omega), ← hp, Nat.and_two_pow_sub_one_eq_mod]

set_option maxRecDepth 100000 in
set_option maxHeartbeats 4000000 in
theorem subtreeLevel (f s n : Nat) (hf : f < 18446744073709551616) (hs : s < 18446744073709551616) (hn : n < 18446744073709551616) (h0 : n ≠ 0) (w : World) (hT : TabAt w) :
    Calls Tryd.prog 6 #[.int .u64 f, .int .u64 s, .int .u64 n] w fun e w' => e = .returned (.int .i64 (level f s n)) ∧ w' = w := by
  have c7 := tz64 s hs w hT
  have c8 := len64 n w (by omega) (by omega)
  have c8b : s ≤ f → Calls Tryd.prog 8 #[.int .u64 ((f : Int) - s)] w fun e w' => e = .returned (.int .i64 (Lib.bitLen (f - s))) ∧ w' = w := by
    intro h
    have := len64 ((f : Int) - s) w (by omega) (by omega)
    have e : ((f : Int) - s).toNat = f - s := by omega
    rw [e] at this
    exact this
  have b1 := bitLen_pos n h0 hn
  have b2 := Lib.bitLen_le n 64 (by omega) hn
  have hlv := lv0_le s n hn
  have b3 := Lib.bitLen_le (f - s) 64 (by omega) (by omega)
  have hmin : (if (Lib.bitLen n : Int) - 1 < (Lib.ctz 64 s : Int) then (Lib.bitLen n : Int) - 1 else (Lib.ctz 64 s : Int)) = (lv0 s n : Int) := by
    unfold lv0
    split <;> omega
  go_enter Tryd.func6, Tryd.ntmps6
  go_wp2_with fail
  refine c7.mono ?_
  rintro e w' ⟨rfl, rfl⟩
  simp only []
  go_wp2_with fail
  refine c8.mono ?_
  rintro e w' ⟨rfl, rfl⟩
  simp only []
  go_wp2_with (simp only [hmin])
  all_goals try (refine (c8b (by omega)).mono ?_; rintro e w' ⟨rfl, rfl⟩; simp only []; go_wp2_with fail)
  all_goals go_ret
  all_goals refine ⟨congrArg Ending.returned (congrArg (Value.int IntKind.i64) ?_), rfl⟩
  all_goals obtain ⟨p, hp, he, _, _⟩ := pw (lv0 s n) hlv
  all_goals unfold level
  all_goals rw [hp]
  all_goals (split <;> omega)

set_option maxRecDepth 100000 in
set_option maxHeartbeats 4000000 in
theorem levelAllowed (f s n l : Nat) (hf : f < 18446744073709551616) (hs : s < 18446744073709551616) (_hn : n < 18446744073709551616) (hl : l ≤ 63) (w : World) :
    Calls Tryd.prog 5 #[.int .u64 f, .int .u64 s, .int .u64 n, .int .i64 l] w fun e w' => e = .returned (.bool (allowed f s n l)) ∧ w' = w := by
  go_enter Tryd.func5, Tryd.ntmps5
  go_wp2_with fail
  all_goals go_ret
  all_goals refine ⟨congrArg Ending.returned (congrArg Value.bool ?_), rfl⟩
  all_goals obtain ⟨p, hp, he, h1, h2⟩ := pw l hl
  all_goals have hb := andMask s l p hs hp he h1 h2
  all_goals unfold allowed
  all_goals rw [hp]
  all_goals generalize s % p = r at hb ⊢
  all_goals simp only [bne_iff_ne, bne_eq_false_iff_eq, ne_eq] at *
  all_goals (split <;> first | rfl | omega | (split <;> first | rfl | omega | (split <;> first | rfl | omega)))

set_option maxRecDepth 100000 in
set_option maxHeartbeats 4000000 in
theorem zzSubtreeLevel (f s n : Nat) (hf : f < 18446744073709551616) (hs : s < 18446744073709551616) (hn : n < 18446744073709551616) (h0 : n ≠ 0) (w : World) (hT : TabAt w) :
    Calls Tryd.prog 4 #[.int .u64 f, .int .u64 s, .int .u64 n] w fun e w' => e = .returned (.int .i64 (level f s n)) ∧ w' = w := by
  have c := subtreeLevel f s n hf hs hn h0 w hT
  go_enter Tryd.func4, Tryd.ntmps4
  go_wp2_with fail
  refine c.mono ?_
  rintro e w' ⟨rfl, rfl⟩
  simp only []
  go_wp2_with fail
  go_ret
  exact ⟨rfl, rfl⟩

set_option maxRecDepth 100000 in
set_option maxHeartbeats 4000000 in
theorem law_walk (f s n : Nat) (hf : f < 18446744073709551616) (hs : s < 18446744073709551616) (hn : n < 18446744073709551616) (w : World) (hT : TabAt w) :
    Calls Tryd.prog 3 #[.int .u64 f, .int .u64 s, .int .u64 n] w fun e w' => e = .returned (.bool true) ∧ w' = w := by
  by_cases h0 : n = 0
  · subst h0
    go_enter Tryd.func3, Tryd.ntmps3
    go_wp2_with fail
    go_ret
    exact ⟨rfl, rfl⟩
  have c4 := zzSubtreeLevel f s n hf hs hn h0 w hT
  have hlv := level_le f s n hf hn
  have hk := hide (fun l (h : l ≤ 63) => level_ok f s n l hf hs hn h0 h)
  generalize level f s n = L at c4 hlv hk
  have hz : ((n : Int) == 0) = false := by simp; omega
  go_enter Tryd.func3, Tryd.ntmps3
  go_wp2_with fail
  refine c4.mono ?_
  rintro e w' ⟨rfl, rfl⟩
  simp only []
  go_wp2_with fail
  go_loop [8, 9] (fun v i => ∃ l : Nat, L ≤ l ∧ l ≤ 63 ∧ i = .int .i64 l ∧ v = .int .i64 0) (fun _ i => (intOf i).toNat)
  case atStart => exact ⟨63, hlv, Nat.le_refl _, rfl, rfl⟩
  case round =>
    obtain ⟨l, hl1, hl2, rfl, rfl⟩ := hrel
    have c5 := levelAllowed f s n l hf hs hn hl2 w'
    by_cases he : l = L
    · subst he
      rw [(hk.out l hl2).1 rfl] at c5
      go_wp2_with fail
      refine c5.mono ?_
      rintro e w2 ⟨rfl, rfl⟩
      simp only []
      go_wp2_with fail
      go_ret
      exact ⟨rfl, rfl⟩
    · rw [(hk.out l hl2).2 (by omega)] at c5
      go_wp2_with fail
      refine c5.mono ?_
      rintro e w2 ⟨rfl, rfl⟩
      simp only []
      go_wp2_with fail
      go_round
      case rel => exact ⟨l - 1, by omega, by omega, by go_num, rfl⟩
      case measure => simp [intOf]; omega

end Go.Proofs.Qxb6003987aDoor
