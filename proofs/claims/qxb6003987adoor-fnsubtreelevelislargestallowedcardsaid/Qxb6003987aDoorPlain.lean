/-
  THE PLAIN LAW OF subtreeLevel: numbers only.
-/
import Derived.Lib.TrailingZeros
import Derived.Lib.BitFns
namespace Go.Proofs.Qxb6003987aDoor

theorem bl (x l : Nat) (hx : x < 2 ^ 64) : 2 ^ l ≤ x ↔ l < Lib.bitLen x := by
  constructor
  · intro h
    have e := Lib.bitLen_shift l x h hx
    have hq : x / 2 ^ l ≠ 0 := by
      have := Nat.div_pos h (Nat.two_pow_pos l)
      omega
    have hq2 : x / 2 ^ l < 2 ^ 64 := Nat.lt_of_le_of_lt (Nat.div_le_self _ _) hx
    have e2 := Lib.bitLen_half _ hq hq2
    omega
  · intro h
    apply Classical.byContradiction
    intro hn
    have hlt : x < 2 ^ l := by omega
    by_cases h64 : l ≤ 64
    · have := Lib.bitLen_le x l h64 hlt
      omega
    · have := Lib.bitLen_le x 64 (by omega) hx
      omega

theorem ct (s l : Nat) (hs : s < 2 ^ 64) (hl : l ≤ 64) : s % 2 ^ l = 0 ↔ l ≤ Lib.ctz 64 s := by
  unfold Lib.ctz
  by_cases h0 : s = 0
  · subst h0
    simp [hl]
  · rw [if_neg h0]
    obtain ⟨m, hm, hk⟩ := Lib.ctzFrom_spec 64 s (by omega) hs
    generalize Lib.ctzFrom 64 s = k at hm hk ⊢
    subst hm
    constructor
    · intro h
      apply Classical.byContradiction
      intro hn
      have d1 : 2 ^ (k + 1) ∣ 2 ^ l := Nat.pow_dvd_pow 2 (by omega)
      have d2 : 2 ^ (k + 1) ∣ 2 ^ k * (2 * m + 1) := Nat.dvd_trans d1 (Nat.dvd_of_mod_eq_zero h)
      rw [Nat.pow_succ] at d2
      have d3 : 2 ∣ 2 * m + 1 := Nat.dvd_of_mul_dvd_mul_left (Nat.two_pow_pos k) d2
      omega
    · intro h
      exact Nat.mod_eq_zero_of_dvd (Nat.dvd_trans (Nat.pow_dvd_pow 2 h) (Nat.dvd_mul_right _ _))

def lv0 (s n : Nat) : Nat := min (Lib.ctz 64 s) (Lib.bitLen n - 1)
def level (f s n : Nat) : Nat := if s ≤ f ∧ f - s < 2 ^ lv0 s n then Lib.bitLen (f - s) - 1 else lv0 s n
def allowed (f s n l : Nat) : Bool := if n < 2 ^ l then false else if s % 2 ^ l ≠ 0 then false else if 0 < l ∧ s ≤ f ∧ f - s < 2 ^ l then false else true

theorem allowed_iff (f s n l : Nat) : allowed f s n l = true ↔ 2 ^ l ≤ n ∧ s % 2 ^ l = 0 ∧ ¬ (0 < l ∧ s ≤ f ∧ f - s < 2 ^ l) := by
  unfold allowed
  split
  · simp; omega
  · split
    · simp_all
    · split <;> simp_all

theorem bitLen_pos (n : Nat) (h0 : n ≠ 0) (hn : n < 2 ^ 64) : 0 < Lib.bitLen n := (bl n 0 hn).1 (by simp; omega)

theorem lv0_le (s n : Nat) (hn : n < 2 ^ 64) : lv0 s n ≤ 63 := by
  have := Lib.bitLen_le n 64 (by omega) hn
  unfold lv0
  omega
theorem level_le (f s n : Nat) (hf : f < 2 ^ 64) (hn : n < 2 ^ 64) : level f s n ≤ 63 := by
  unfold level
  have := lv0_le s n hn
  have := Lib.bitLen_le (f - s) 64 (by omega) (by omega)
  split <;> omega

theorem lv0_ok (s n l : Nat) (hs : s < 2 ^ 64) (hn : n < 2 ^ 64) (h0 : n ≠ 0) (hl : l ≤ 63) : (2 ^ l ≤ n ∧ s % 2 ^ l = 0) ↔ l ≤ lv0 s n := by
  rw [bl n l hn, ct s l hs (by omega)]
  have := bitLen_pos n h0 hn
  unfold lv0
  omega

theorem level_ok (f s n l : Nat) (hf : f < 2 ^ 64) (hs : s < 2 ^ 64) (hn : n < 2 ^ 64) (h0 : n ≠ 0) (hl : l ≤ 63) :
    (l = level f s n → allowed f s n l = true) ∧ (level f s n < l → allowed f s n l = false) := by
  have e1 := lv0_ok s n l hs hn h0 hl
  have hfs : f - s < 2 ^ 64 := by omega
  have e2 := bl (f - s) l hfs
  have e3 := bl (f - s) (lv0 s n) hfs
  rw [← Bool.not_eq_true, allowed_iff, ← and_assoc, e1]
  unfold level
  split
  · rename_i h
    have hb : Lib.bitLen (f - s) ≤ lv0 s n := by omega
    constructor
    · intro e
      omega
    · intro e
      omega
  · rename_i h
    constructor
    · intro e
      subst e
      omega
    · intro e
      omega

end Go.Proofs.Qxb6003987aDoor
