/-
  zzRankAbove, the bound on total length, and THE PLAIN LAW of FnTakeFreshBelowSpec.
-/
import Derived.Test.Qxb6003686aTake
namespace Go.Proofs.Qxb6003686a
open Go.RowKit

/-- Token a ranks strictly above token b. -/
def rankB (af : Bool) (am : Int) (bf : Bool) (bm : Int) : Bool := if af = bf then decide (bm < am) else af

theorem rank_any (af : Bool) (am : Int) (bf : Bool) (bm : Int) (r : Bool) (w : World) (h : rankB af am bf bm = r) :
    Calls Try.prog 8 #[.bool af, .int .i64 am, .bool bf, .int .i64 bm] w fun e w' => e = .returned (.bool r) ∧ w' = w := by
  cases af <;> cases bf <;> simp [rankB] at h <;> subst h
  all_goals
    go_enter Try.func8, Try.ntmps8
    go_wp2
    go_ret
    exact ⟨rfl, rfl⟩

theorem bytes3_no (a0 a1 a2 : Option Addr) (l0 c0 l1 c1 l2 c2 : Nat) (s n : Int) (w : World) (m0 : l0 ≤ 9223372036854775807) (m1 : l1 ≤ 9223372036854775807) (m2 : l2 ≤ 9223372036854775807) (h : 1048576 < l0 + l1 + l2) :
    Calls Try.prog 7 #[.slice a0 l0 c0, .slice a1 l1 c1, .slice a2 l2 c2, .int .i64 s, .int .i64 n] w fun e w' => e = .returned (.bool false) ∧ w' = w := by
  by_cases h0 : 1048576 < l0
  · go_enter Try.func7, Try.ntmps7
    go_wp2
    go_ret
    exact ⟨rfl, rfl⟩
  by_cases h1 : 1048576 < l1
  · go_enter Try.func7, Try.ntmps7
    go_wp2
    go_ret
    exact ⟨rfl, rfl⟩
  by_cases h01 : 1048576 < l0 + l1
  · go_enter Try.func7, Try.ntmps7
    go_wp2
    go_ret
    exact ⟨rfl, rfl⟩
  by_cases h2 : 1048576 < l2
  · go_enter Try.func7, Try.ntmps7
    go_wp2
    go_ret
    exact ⟨rfl, rfl⟩
  · go_enter Try.func7, Try.ntmps7
    go_wp2
    go_ret
    exact ⟨rfl, rfl⟩

theorem bytes3_yes (a0 a1 a2 : Option Addr) (l0 c0 l1 c1 l2 c2 : Nat) (s n : Int) (w : World) (h : l0 + l1 + l2 ≤ 1048576) :
    Calls Try.prog 7 #[.slice a0 l0 c0, .slice a1 l1 c1, .slice a2 l2 c2, .int .i64 s, .int .i64 n] w fun e w' => e = .returned (.bool true) ∧ w' = w := by
  go_enter Try.func7, Try.ntmps7
  go_wp2
  go_ret
  exact ⟨rfl, rfl⟩

/-! ### The plain law -/
/-- The buffer is in rank order. -/
def Ranked (E : Nat → Int × Int × Bool) (N : Nat) : Prop := ∀ j, j + 1 < N → rankB (E j).2.2 (E j).2.1 (E (j + 1)).2.2 (E (j + 1)).2.1 = false

theorem rank_trans {a b c : Int × Int × Bool} (h1 : rankB a.2.2 a.2.1 b.2.2 b.2.1 = false) (h2 : rankB b.2.2 b.2.1 c.2.2 c.2.1 = false) : rankB a.2.2 a.2.1 c.2.2 c.2.1 = false := by
  obtain ⟨_, am, af⟩ := a
  obtain ⟨_, bm, bf⟩ := b
  obtain ⟨_, cm, cf⟩ := c
  cases af <;> cases bf <;> cases cf <;> simp_all [rankB]
  all_goals omega

theorem Ranked.le {E : Nat → Int × Int × Bool} {N : Nat} (h : Ranked E N) (i d : Nat) (hd : i + d + 1 < N) : rankB (E i).2.2 (E i).2.1 (E (i + d + 1)).2.2 (E (i + d + 1)).2.1 = false := by
  induction d with
  | zero => exact h i hd
  | succ d ih => exact rank_trans (ih (by omega)) (h (i + d + 1) hd)

theorem Ranked.lt {E : Nat → Int × Int × Bool} {N : Nat} (h : Ranked E N) (i j : Nat) (hij : i < j) (hj : j < N) : rankB (E i).2.2 (E i).2.1 (E j).2.2 (E j).2.1 = false := by
  have := h.le i (j - i - 1) (by omega)
  rwa [show i + (j - i - 1) + 1 = j by omega] at this

theorem Ranked.fresh {E : Nat → Int × Int × Bool} {N : Nat} (h : Ranked E N) (i j : Nat) (hij : i < j) (hj : j < N) (hf : (E i).2.2 = true) : (E j).2.2 = true := by
  have := h.lt i j hij hj
  cases hj2 : (E j).2.2
  · simp [rankB, hf, hj2] at this
  · rfl

/-- How many of the first k are fresh. -/
def cntF (F : Nat → Bool) : Nat → Nat
  | 0 => 0
  | k + 1 => cntF F k + (if F k then 1 else 0)

theorem cntF_le (F : Nat → Bool) (k : Nat) : cntF F k ≤ k := by
  induction k with
  | zero => exact Nat.le_refl _
  | succ k ih => unfold cntF; split <;> omega

theorem cntF_all (F : Nat → Bool) (fr d : Nat) (h : ∀ s, fr ≤ s → s < fr + d → F s = true) : cntF F (fr + d) = cntF F fr + d := by
  induction d with
  | zero => rfl
  | succ d ih =>
    rw [show fr + (d + 1) = (fr + d) + 1 by omega]
    show cntF F (fr + d) + (if F (fr + d) then 1 else 0) = _
    rw [ih (fun s h1 h2 => h s h1 (by omega)), if_pos (h (fr + d) (by omega) (by omega))]
    omega

theorem cntF_none (F : Nat → Bool) (k : Nat) (h : ∀ s, s < k → F s = false) : cntF F k = 0 := by
  induction k with
  | zero => rfl
  | succ k ih =>
    unfold cntF
    rw [ih (fun s hs => h s (by omega)), h k (by omega)]
    rfl

/-- THE NUMBER OF TOKENS TAKEN IS min(max(n, 0), F). -/
theorem took_count {E : Nat → Int × Int × Bool} {N bl fr : Nat} {n : Int} (h : Ranked E N) (hbl : bl ≤ N) (t : Took (fun j => (E j).2.2) bl n fr) :
    ((bl - fr : Nat) : Int) = (if (cntF (fun j => (E j).2.2) bl : Int) < (if n < 0 then 0 else n) then (cntF (fun j => (E j).2.2) bl : Int) else (if n < 0 then 0 else n)) := by
  have hle := t.le
  have hc := cntF_all (fun j => (E j).2.2) fr (bl - fr) (fun s h1 h2 => t.all s h1 (by omega))
  rw [show fr + (bl - fr) = bl by omega] at hc
  rcases t.stop with h0 | h0 | h0
  · subst h0
    have e0 : cntF (fun j => (E j).2.2) 0 = 0 := rfl
    have := t.cnt
    by_cases hb : 0 < bl
    · have := this hb
      split <;> split <;> omega
    · split <;> split <;> omega
  · have := t.cnt
    by_cases hb : fr < bl
    · have := this hb
      split <;> split <;> omega
    · split <;> split <;> omega
  · by_cases hf0 : fr = 0
    · subst hf0
      have e0 : cntF (fun j => (E j).2.2) 0 = 0 := rfl
      have := t.cnt
      by_cases hb : 0 < bl
      · have := this hb
        split <;> split <;> omega
      · split <;> split <;> omega
    · have hz : cntF (fun j => (E j).2.2) fr = 0 := by
        apply cntF_none
        intro s hs
        show (E s).2.2 = false
        cases hE : (E s).2.2
        · rfl
        · by_cases e : s = fr - 1
          · rw [e] at hE; rw [← hE]; exact h0
          · have := h.fresh s (fr - 1) (by omega) (by omega) hE
            rw [← this]; exact h0
      have := t.cnt
      by_cases hb : fr < bl
      · have := this hb
        split <;> split <;> omega
      · split <;> split <;> omega

/-- What is left is in rank order. -/
theorem left_ranked {E : Nat → Int × Int × Bool} {N fr t : Nat} (h : Ranked E N) (ht : fr + t ≤ N) : Ranked (fun j => if j < fr then E j else E (j + t)) (N - t) := by
  intro j hj
  by_cases h1 : j + 1 < fr
  · simp only [if_pos h1, if_pos (show j < fr by omega)]
    exact h j (by omega)
  · by_cases h2 : j < fr
    · simp only [if_pos h2, if_neg h1]
      exact h.lt j (j + 1 + t) (by omega) (by omega)
    · simp only [if_neg h2, if_neg (show ¬ j + 1 < fr by omega)]
      rw [show j + 1 + t = j + t + 1 by omega]
      exact h (j + t) (by omega)

end Go.Proofs.Qxb6003686a
