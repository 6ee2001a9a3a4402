/-
  THE CONTRACTS OF THE SMALL FUNCTIONS ON Decimal.
-/
import Derived.Test.Qxb6003706aProg
import Derived.WalkKit
import Derived.WalkSpells
import Derived.WalkLawsBesides
import Derived.Laws.OwnMore
namespace Go.Proofs.Qxb6003706a
open Go.RowKit

theorem hide {p : Prop} (h : p) : Hid p := h

theorem growntrans {a b c : World} (h : Grown a b) (k : Grown b c) : Grown a c :=
  ⟨World.keptBut_trans h.1 k.1, fun x => (k.2.1 x).trans (h.2.1 x), Nat.le_trans h.2.2 k.2.2⟩

/-- What signed makes of a coefficient. -/
theorem signed_any (q s : Int) (neg : Bool) (w : World) (h0 : 0 ≤ q) (h1 : q < 1000000000000000000) (h2 : 0 ≤ s) (h3 : s ≤ 18) :
    Calls Try.prog 16 #[.int .u64 q, .bool neg, .int .i64 s] w fun e w' => e = .returned (.agg #[.int .i64 (if neg then -q else q), .int .i8 s]) ∧ w' = w.alloc (.cells #[.int .i64 (if neg then -q else q), .int .i8 s] 24) := by
  cases neg
  · go_enter Try.func16, Try.ntmps16
    go_wp2
    exact bodyPost_ret (v := .agg #[.int .i64 q, .int .i8 s]) (by simp [results, Try.results16, go_sem]) rfl ⟨rfl, rfl⟩
  · go_enter Try.func16, Try.ntmps16
    go_wp2
    exact bodyPost_ret (v := .agg #[.int .i64 (-q), .int .i8 s]) (by simp [results, Try.results16, go_sem]) rfl ⟨rfl, rfl⟩

theorem ZZsigned_any (q s : Int) (neg : Bool) (w : World) (h0 : 0 ≤ q) (h1 : q < 1000000000000000000) (h2 : 0 ≤ s) (h3 : s ≤ 18) :
    Calls Try.prog 11 #[.int .u64 q, .bool neg, .int .i64 s] w fun e w' => e = .returned (.agg #[.int .i64 (if neg then -q else q), .int .i8 s]) ∧ w' = (w.alloc (.cells #[.int .i64 (if neg then -q else q), .int .i8 s] 24)).alloc (.cells #[.int .i64 (if neg then -q else q), .int .i8 s] 24) := by
  cases neg
  · go_enter Try.func11, Try.ntmps11
    go_wp2_with (go_at_call 16; refine (signed_any _ _ _ _ h0 h1 h2 h3).mono ?_; rintro e w' ⟨rfl, rfl⟩)
    exact bodyPost_ret (v := .agg #[.int .i64 q, .int .i8 s]) (by simp [results, Try.results11, go_sem]) rfl ⟨rfl, rfl⟩
  · go_enter Try.func11, Try.ntmps11
    go_wp2_with (go_at_call 16; refine (signed_any _ _ _ _ h0 h1 h2 h3).mono ?_; rintro e w' ⟨rfl, rfl⟩)
    exact bodyPost_ret (v := .agg #[.int .i64 (-q), .int .i8 s]) (by simp [results, Try.results11, go_sem]) rfl ⟨rfl, rfl⟩

theorem ZZsigned_neg (c s : Int) (w : World) (h0 : c ≤ 0) (h1 : -1000000000000000000 < c) (h2 : 0 ≤ s) (h3 : s ≤ 18) :
    Calls Try.prog 11 #[.int .u64 (-c), .bool true, .int .i64 s] w fun e w' => e = .returned (.agg #[.int .i64 c, .int .i8 s]) ∧ w' = (w.alloc (.cells #[.int .i64 c, .int .i8 s] 24)).alloc (.cells #[.int .i64 c, .int .i8 s] 24) := by
  have h := ZZsigned_any (-c) s true w (by omega) (by omega) h2 h3
  simpa using h

theorem ZZsigned_pos (c s : Int) (w : World) (h0 : 0 ≤ c) (h1 : c < 1000000000000000000) (h2 : 0 ≤ s) (h3 : s ≤ 18) :
    Calls Try.prog 11 #[.int .u64 c, .bool false, .int .i64 s] w fun e w' => e = .returned (.agg #[.int .i64 c, .int .i8 s]) ∧ w' = (w.alloc (.cells #[.int .i64 c, .int .i8 s] 24)).alloc (.cells #[.int .i64 c, .int .i8 s] 24) := by
  have h := ZZsigned_any c s false w h0 h1 h2 h3
  simpa using h

theorem ZZmake_any (c s : Int) (w : World) :
    Calls Try.prog 7 #[.int .i64 c, .int .i8 s] w fun e w' => e = .returned (.agg #[.int .i64 c, .int .i8 s]) ∧ w' = w.alloc (.cells #[.int .i64 c, .int .i8 s] 24) := by
  go_enter Try.func7, Try.ntmps7
  go_wp2
  exact bodyPost_ret (v := .agg #[.int .i64 c, .int .i8 s]) (by simp [results, Try.results7, go_sem]) rfl ⟨rfl, rfl⟩

theorem scale_any (c s : Int) (w : World) (h2 : 0 ≤ s) (h3 : s ≤ 18) :
    Calls Try.prog 13 #[.agg #[.int .i64 c, .int .i8 s]] w fun e w' => e = .returned (.int .i64 s) ∧ w' = w.alloc (.cells #[.int .i64 c, .int .i8 s] 24) := by
  go_enter Try.func13, Try.ntmps13
  go_wp2
  go_ret
  exact ⟨rfl, rfl⟩

theorem coef_any (c s : Int) (w : World) :
    Calls Try.prog 14 #[.agg #[.int .i64 c, .int .i8 s]] w fun e w' => e = .returned (.int .i64 c) ∧ w' = w.alloc (.cells #[.int .i64 c, .int .i8 s] 24) := by
  go_enter Try.func14, Try.ntmps14
  go_wp2
  go_ret
  exact ⟨rfl, rfl⟩

/-- The sign of a coefficient. -/
def sgn (c : Int) : Int := if c < 0 then -1 else if 0 < c then 1 else 0

theorem sign_any (c s : Int) (w : World) :
    Calls Try.prog 10 #[.agg #[.int .i64 c, .int .i8 s]] w fun e w' => e = .returned (.int .i64 (sgn c)) ∧ w' = w.alloc (.cells #[.int .i64 c, .int .i8 s] 24) := by
  unfold sgn
  by_cases h : c < 0
  · rw [if_pos h]
    go_enter Try.func10, Try.ntmps10
    go_wp2
    go_ret
    exact ⟨rfl, rfl⟩
  · rw [if_neg h]
    by_cases h2 : 0 < c
    · rw [if_pos h2]
      go_enter Try.func10, Try.ntmps10
      go_wp2
      go_ret
      exact ⟨rfl, rfl⟩
    · rw [if_neg h2]
      go_enter Try.func10, Try.ntmps10
      go_wp2
      go_ret
      exact ⟨rfl, rfl⟩

theorem ret_int {k : IntKind} {a b : Int} (h : a = b) : Ending.returned (.int k a) = .returned (.int k b) := by rw [h]
theorem least_wrap : IntKind.u64.wrap (wrap64 9223372036854775808) = 9223372036854775808 := by
  rw [IntKind.wrap_u64]; unfold wrap64; omega

/-- |c|, as an integer. -/
def absI (c : Int) : Int := if c < 0 then -c else c

theorem mag_any (c : Int) (w : World) (h1 : -9223372036854775808 ≤ c) (h2 : c ≤ 9223372036854775807) :
    Calls Try.prog 15 #[.int .i64 c] w fun e w' => e = .returned (.int .u64 (absI c)) ∧ w' = w := by
  unfold absI
  by_cases h : c < 0
  · rw [if_pos h]
    by_cases hm : c = -9223372036854775808
    · subst hm
      go_enter Try.func15, Try.ntmps15
      go_wp2
      go_ret
      exact ⟨ret_int least_wrap, rfl⟩
    · have hm' : -9223372036854775807 ≤ c := by omega
      clear hm
      go_enter Try.func15, Try.ntmps15
      go_wp2
      go_ret
      exact ⟨rfl, rfl⟩
  · rw [if_neg h]
    go_enter Try.func15, Try.ntmps15
    go_wp2
    go_ret
    exact ⟨rfl, rfl⟩

theorem ZZmag_any (c : Int) (w : World) (h1 : -9223372036854775808 ≤ c) (h2 : c ≤ 9223372036854775807) :
    Calls Try.prog 12 #[.int .i64 c] w fun e w' => e = .returned (.int .u64 (absI c)) ∧ w' = w := by
  go_enter Try.func12, Try.ntmps12
  go_wp2_with (go_at_call 15; refine (mag_any _ _ h1 h2).mono ?_; rintro e w' ⟨rfl, rfl⟩)
  go_ret
  exact ⟨rfl, rfl⟩

theorem abs_any (c : Int) (w : World) (h1 : -9223372036854775808 ≤ c) (h2 : c ≤ 9223372036854775807) :
    Calls Try.prog 9 #[.int .i64 c] w fun e w' => e = .returned (.int .u64 (absI c)) ∧ w' = w := by
  unfold absI
  by_cases h : c < 0
  · rw [if_pos h]
    go_enter Try.func9, Try.ntmps9
    go_wp2
    go_ret
    exact ⟨ret_int (by omega), rfl⟩
  · rw [if_neg h]
    go_enter Try.func9, Try.ntmps9
    go_wp2
    go_ret
    exact ⟨rfl, rfl⟩
end Go.Proofs.Qxb6003706a
