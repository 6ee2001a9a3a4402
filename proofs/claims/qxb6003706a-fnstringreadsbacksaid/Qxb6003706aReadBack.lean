/-
  THE PLAIN LAW OF FnStringReadsBack: where a reader of the text stands.
-/
import Derived.Test.Qxb6003706aSignStr
namespace Go.Proofs.Qxb6003706a
open Go.RowKit

/-- Where the reader stands: n digits of the number are still to come; 'rem' is what is left of the text; 'dn' digits stand ahead of the point so far, 'fr' behind it; 'sp': has the point been seen? -/
structure Rd (M S k n : Nat) (rem : List Nat) (dn fr : Nat) (sp : Bool) : Prop where
  nk : n ≤ k
  cs : (S < n ∧ rem = strN M S n ∧ dn = k - n ∧ fr = 0 ∧ sp = false) ∨
       (n = S ∧ 0 < S ∧ rem = 46 :: strN M S S ∧ dn = k - S ∧ fr = 0 ∧ sp = false) ∨
       (n ≤ S ∧ rem = strN M S n ∧ dn = k - S ∧ fr = S - n ∧ sp = decide (0 < S))

theorem Rd.start {M S k : Nat} (h : S < k) : Rd M S k k (strN M S k) 0 0 false :=
  ⟨Nat.le_refl _, .inl ⟨h, rfl, by omega, rfl, rfl⟩⟩

/-- Nothing left. -/
theorem Rd.done {M S k n dn fr : Nat} {sp : Bool} (h : Rd M S k n [] dn fr sp) : n = 0 ∧ dn = k - S ∧ fr = S ∧ sp = decide (0 < S) := by
  rcases h.cs with ⟨h1, h2, h3, h4, h5⟩ | ⟨h1, h2, h3, _⟩ | ⟨h1, h2, h3, h4, h5⟩
  · have := congrArg List.length h2
    rw [strN_len] at this
    simp at this
    omega
  · cases h3
  · have hn : n = 0 := by
      have := congrArg List.length h2
      rw [strN_len] at this
      simp at this
      omega
    subst hn
    exact ⟨rfl, h3, by omega, h5⟩

/-- What comes next: the point, or a digit. -/
theorem Rd.next {M S k n dn fr : Nat} {sp : Bool} {v : Nat} {rem : List Nat} (hk : S < k) (h : Rd M S k n (v :: rem) dn fr sp) :
    (v = 46 ∧ sp = false ∧ 0 < dn ∧ Rd M S k n rem dn fr true) ∨
    (∃ n', n = n' + 1 ∧ v = 48 + dg M n' ∧ ((sp = true ∧ Rd M S k n' rem dn (fr + 1) true) ∨ (sp = false ∧ dn = k - n ∧ Rd M S k n' rem (dn + 1) fr false))) := by
  have hnk := h.nk
  rcases h.cs with ⟨h1, h2, h3, h4, h5⟩ | ⟨h1, h2, h3, h4, h5, h6⟩ | ⟨h1, h2, h3, h4, h5⟩
  · obtain ⟨n', rfl⟩ : ∃ n', n = n' + 1 := ⟨n - 1, by omega⟩
    unfold strN at h2
    simp only [List.cons.injEq] at h2
    refine .inr ⟨n', rfl, h2.1, .inr ⟨h5, h3, by omega, ?_⟩⟩
    by_cases hp : n' = S ∧ 0 < n'
    · rw [if_pos hp] at h2
      obtain ⟨rfl, hp2⟩ := hp
      exact .inr (.inl ⟨rfl, hp2, h2.2, by omega, h4, rfl⟩)
    · rw [if_neg hp] at h2
      by_cases hS : S < n'
      · exact .inl ⟨hS, h2.2, by omega, h4, rfl⟩
      · have : n' = 0 ∧ S = 0 := by omega
        obtain ⟨rfl, rfl⟩ := this
        exact .inr (.inr ⟨Nat.le_refl _, h2.2, by omega, by omega, rfl⟩)
  · simp only [List.cons.injEq] at h3
    refine .inl ⟨h3.1, h6, by omega, hnk, .inr (.inr ⟨by omega, by rw [h3.2, h1], h4, by omega, by simp [h2]⟩)⟩
  · have hn : 0 < n := by
      rcases Nat.eq_zero_or_pos n with h0 | h0
      · subst h0; simp [strN] at h2
      · exact h0
    obtain ⟨n', rfl⟩ : ∃ n', n = n' + 1 := ⟨n - 1, by omega⟩
    unfold strN at h2
    rw [if_neg (by omega)] at h2
    simp only [List.cons.injEq] at h2
    have hsp : sp = true := by rw [h5]; simp; omega
    refine .inr ⟨n', rfl, h2.1, .inl ⟨hsp, by omega, .inr (.inr ⟨by omega, h2.2, h3, by omega, by simp; omega⟩)⟩⟩

theorem val_step (M n : Nat) : M / 10 ^ (n + 1) * 10 + dg M n = M / 10 ^ n := by
  rw [div_succ]
  unfold dg
  omega

end Go.Proofs.Qxb6003706a
