/-
  THE PLAIN LAW AND THE WALK OF FnSignAgreesWithString.
-/
import Derived.Test.Qxb6003706aStr
import Derived.Deep.QuietTactic
import Derived.BigQuiet
namespace Go.Proofs.Qxb6003706a
open Go.RowKit

/-- Is the byte no digit from 1 to 9? -/
def nz (v : Nat) : Bool := !(decide (49 ≤ v) && decide (v ≤ 57))

theorem strN_all (M S n : Nat) : (strN M S n).all nz = decide (M % 10 ^ n = 0) := by
  induction n with
  | zero => simp [strN, Nat.mod_one]
  | succ n ih =>
    have hd : dg M n < 10 := Nat.mod_lt _ (by omega)
    have hp : 0 < 10 ^ n := Nat.pow_pos (by omega)
    have hm : M % 10 ^ (n + 1) = M % 10 ^ n + 10 ^ n * dg M n := by rw [Nat.mod_pow_succ]; rfl
    have e : (M % 10 ^ (n + 1) = 0) ↔ (dg M n = 0 ∧ M % 10 ^ n = 0) := by
      rw [hm]
      constructor
      · intro h
        have h1 : M % 10 ^ n = 0 := by omega
        have h2 : 10 ^ n * dg M n = 0 := by omega
        rcases Nat.mul_eq_zero.1 h2 with h3 | h3
        · omega
        · exact ⟨h3, h1⟩
      · rintro ⟨h1, h2⟩
        rw [h1, h2]; simp
    have hz : nz (48 + dg M n) = decide (dg M n = 0) := by
      unfold nz
      by_cases h : dg M n = 0
      · simp [h]
      · simp [h]; omega
    have h46 : nz 46 = true := rfl
    unfold strN
    have e' : decide (M % 10 ^ (n + 1) = 0) = (decide (dg M n = 0) && decide (M % 10 ^ n = 0)) := by
      rw [← Bool.decide_and]; exact decide_eq_decide.2 e
    rw [e']
    split
    · simp only [List.all_cons, hz, h46, ih, Bool.true_and]
    · simp only [List.all_cons, hz, ih]

/-- What the laws need of the text: its bytes l. -/
structure TextR (c : Int) (M : Nat) (b : ByteArray) (l : List Nat) : Prop where
  size : b.size = l.length
  pos : 0 < l.length
  le : l.length ≤ 21
  at_ : ∀ i (h : i < b.size), b[i].toNat = l.getD i 0
  lt : ∀ i, l.getD i 0 < 256

theorem toBytes_size (l : List Nat) : (toBytes l).size = l.length := by
  show ((l.map UInt8.ofNat).toArray).size = _
  simp

theorem toBytes_at (l : List Nat) (hl : ∀ v ∈ l, v < 256) (i : Nat) (h : i < (toBytes l).size) : ((toBytes l)[i]).toNat = l.getD i 0 := by
  have hi : i < l.length := by rwa [toBytes_size] at h
  show (((l.map UInt8.ofNat).toArray)[i]'(by simpa using hi)).toNat = _
  have := hl l[i] (List.getElem_mem hi)
  simp [List.getD, hi, Nat.mod_eq_of_lt this]

theorem StrOut.text {c : Int} {M S : Nat} {b : ByteArray} (h : StrOut c M S b) (hS : S ≤ 18) : ∃ k, S < k ∧ M / 10 ^ k = 0 ∧ (k ≤ S + 1 ∨ 0 < M / 10 ^ (k - 1)) ∧ k ≤ 19 ∧ TextR c M b ((if c < 0 then [45] else []) ++ strN M S k) := by
  obtain ⟨k, h1, h2, h3, h4, rfl⟩ := h
  have hm : ∀ v ∈ (if c < 0 then [45] else []) ++ strN M S k, v < 256 := by
    intro v hv
    simp only [List.mem_append] at hv
    rcases hv with h | h
    · split at h
      · simp at h; omega
      · simp at h
    · exact strN_lt M S k v h
  have hlen := strN_len M S k
  refine ⟨k, h1, h2, h3, h4, toBytes_size _, ?_, ?_, toBytes_at _ hm, ?_⟩
  · rw [List.length_append]; omega
  · rw [List.length_append]
    split at hlen <;> split <;> simp <;> omega
  · intro i
    generalize (if c < 0 then [45] else []) ++ strN M S k = l at hm
    by_cases hi : i < l.length
    · have := hm _ (List.getElem_mem hi)
      simpa [List.getD, hi] using this
    · simp [List.getD, hi]

theorem text_head {c : Int} {M S k : Nat} (hk : S < k) : (((if c < 0 then [45] else []) ++ strN M S k).getD 0 0 = 45) ↔ c < 0 := by
  obtain ⟨k', rfl⟩ : ∃ k', k = k' + 1 := ⟨k - 1, by omega⟩
  by_cases h : c < 0
  · simp [h]
  · simp [h, strN]; omega

theorem text_all {c : Int} {M S k : Nat} (hz : M / 10 ^ k = 0) : ((if c < 0 then [45] else []) ++ strN M S k).all nz = decide (M = 0) := by
  have hp : 0 < 10 ^ k := Nat.pow_pos (by omega)
  have hlt : M < 10 ^ k := by
    rcases Nat.div_eq_zero_iff.1 hz with h | h
    · omega
    · exact h
  have := strN_all M S k
  rw [Nat.mod_eq_of_lt hlt] at this
  rw [List.all_append, this]
  have h45 : nz 45 = true := rfl
  split <;> simp [h45]

theorem take_all (l : List Nat) (i : Nat) (h : i < l.length) : (l.take (i + 1)).all nz = ((l.take i).all nz && nz (l.getD i 0)) := by
  rw [List.take_succ_eq_append_getElem h, List.all_append]
  simp [List.getD, h]

end Go.Proofs.Qxb6003706a
