/-
  Decimal.String: what it writes, and that it writes it.
-/
import Derived.Test.Qxb6003706aDec
import Derived.Laws.IdiomStrings
import Derived.Deep.OwnRows
namespace Go.Proofs.Qxb6003706a
open Go.RowKit

/-! ### The plain part -/
def dg (M n : Nat) : Nat := M / 10 ^ n % 10
/-- The last n digits of M, with the point where S digits stand behind it, as bytes. -/
def strN (M S : Nat) : Nat → List Nat
  | 0 => []
  | n + 1 => (48 + dg M n) :: (if n = S ∧ 0 < n then 46 :: strN M S n else strN M S n)

theorem strN_len (M S n : Nat) : (strN M S n).length = n + (if S < n ∧ 0 < S then 1 else 0) := by
  induction n with
  | zero => simp [strN]
  | succ n ih =>
    unfold strN
    by_cases h : n = S ∧ 0 < n
    · rw [if_pos h]
      simp only [List.length_cons, ih]
      rw [if_neg (by omega), if_pos (by omega)]
    · rw [if_neg h]
      simp only [List.length_cons, ih]
      by_cases h2 : S < n ∧ 0 < S
      · rw [if_pos h2, if_pos (by omega)]
      · rw [if_neg h2, if_neg (by omega)]

theorem strN_lt (M S n : Nat) : ∀ v ∈ strN M S n, v < 256 := by
  induction n with
  | zero => simp [strN]
  | succ n ih =>
    intro v hv
    unfold strN at hv
    have hd : dg M n < 10 := Nat.mod_lt _ (by omega)
    split at hv
    · simp only [List.mem_cons] at hv
      rcases hv with h | h | h
      · omega
      · omega
      · exact ih v h
    · simp only [List.mem_cons] at hv
      rcases hv with h | h
      · omega
      · exact ih v h

def toBytes (l : List Nat) : ByteArray := ⟨(l.map UInt8.ofNat).toArray⟩

/-- The buffer holds l at its end, from i on; of what was there nothing has turned. -/
structure BufR (w : World) (c s : Int) (wr : World) (i : Nat) (l : List Nat) : Prop where
  grown : Grown w wr
  b0 : wr.cell? ⟨w.heap.size, 0, none⟩ = some (.int .i64 c)
  b1 : wr.cell? ⟨w.heap.size, 1, none⟩ = some (.int .i8 s)
  len : i + l.length = 21
  row : ∃ f, wr.rowIs (w.heap.size + 1) 34 21 f ∧ ∀ (j v : Nat), l[j]? = some v → f (i + j) = .int .u8 (v : Int)

theorem BufR.push {w : World} {c s : Int} {wr : World} {i : Nat} {l : List Nat} (h : BufR w c s wr (i + 1) l) (v : Nat) :
    BufR w c s (wr.setCell ⟨w.heap.size + 1, i, none⟩ (.int .u8 (v : Int))) i (v :: l) := by
  obtain ⟨f, hf, hl⟩ := h.row
  have ne : ∀ o, (wr.setCell ⟨w.heap.size + 1, i, none⟩ (.int .u8 (v : Int))).cell? ⟨w.heap.size, o, none⟩ = wr.cell? ⟨w.heap.size, o, none⟩ := fun o => by
    apply World.cell?_setCell_other
    intro e
    simp at e
  refine ⟨h.grown.setCell (by simp) _, (ne 0).trans h.b0, (ne 1).trans h.b1, by have := h.len; simp; omega, _, hf.set i _, ?_⟩
  intro j u hj
  by_cases e : j = 0
  · subst e
    simp at hj
    subst hj
    simp
  · obtain ⟨j', rfl⟩ : ∃ j', j = j' + 1 := ⟨j - 1, by omega⟩
    simp only [List.getElem?_cons_succ] at hj
    rw [if_neg (by omega)]
    have := hl j' u hj
    rw [show i + (j' + 1) = i + 1 + j' by omega]
    exact this

theorem slice34 (g i : Nat) (hi : i ≤ 20) (w : World) :
    (Instr.sliceAt 34 (.pointer (some ⟨g, 0, none⟩)) (some (.int .i64 (i : Int))) none none).run Try.prog w = .ok (.slice (some ⟨g, i, none⟩) (21 - i) (21 - i)) w := by
  have hal : Try.prog.arrayLen 34 = 21 := by kernel_rfl
  have hel : Try.prog.elem 34 = 5 := by kernel_rfl
  have ht : Try.prog.underlying 34 = some (.array (Try.prog.arrayLen 34) (Try.prog.elem 34)) := by rw [hal, hel]; exact Try.underlying34
  rw [run_sliceAt_array_l w 34 ⟨g, 0, none⟩ ht .i64 (i : Int) (by omega) (by rw [hal]; omega), hal, hel, Try.sizeOf5]
  simp only [Result.andThen_ok, slicedAt, Int.toNat_natCast, Nat.mul_one]
  rw [if_neg (by omega), Addr.add_lit, Nat.zero_add]

theorem BufR.conv {w : World} {c s : Int} {wr : World} {i : Nat} {l : List Nat} (h : BufR w c s wr i l) (hl : ∀ v ∈ l, v < 256) :
    (convert 35 9 (.slice (some ⟨w.heap.size + 1, i, none⟩) (21 - i) (21 - i))).run Try.prog wr = .ok (.string (toBytes l)) wr := by
  obtain ⟨f, hf, hx⟩ := h.row
  have hlen := h.len
  have e : 21 - i = (l.map UInt8.ofNat).length := by simp; omega
  have := run_convert_bytes_back (P := Try.prog) wr 35 9 5 ⟨w.heap.size + 1, i, none⟩ (21 - i) (l.map UInt8.ofNat) Try.underlying35 Try.underlying5 Try.underlying9 (fun j hj => by
    simp at hj
    rw [Addr.add_lit, hf.cell (by omega), hx j l[j] (by simp [hj])]
    have := hl l[j] (List.getElem_mem hj)
    simp [Nat.mod_eq_of_lt this])
  rw [← e] at this
  exact this

theorem pow_le {k M : Nat} (h : 0 < M / 10 ^ k) : 10 ^ k ≤ M := by
  have := Nat.div_mul_le_self M (10 ^ k)
  have h2 : 1 * 10 ^ k ≤ M / 10 ^ k * 10 ^ k := Nat.mul_le_mul_right _ h
  omega

theorem k_le {k M : Nat} (hM : M ≤ 9223372036854775808) (h : 0 < M / 10 ^ k) : k ≤ 18 := by
  by_cases hk : k ≤ 18
  · exact hk
  · have h1 := pow_le h
    have h2 : (10 : Nat) ^ 19 ≤ 10 ^ k := Nat.pow_le_pow_right (by omega) (by omega)
    omega

theorem div_succ (M k : Nat) : M / 10 ^ (k + 1) = M / 10 ^ k / 10 := by
  rw [Nat.pow_succ, Nat.div_div_eq_div_mul]

/-- What String writes. -/
def StrOut (c : Int) (M S : Nat) (b : ByteArray) : Prop :=
  ∃ k, S < k ∧ M / 10 ^ k = 0 ∧ (k ≤ S + 1 ∨ 0 < M / 10 ^ (k - 1)) ∧ k ≤ 19 ∧ b = toBytes ((if c < 0 then [45] else []) ++ strN M S k)

set_option maxHeartbeats 1000000 in
theorem string_any (c s : Int) (M S : Nat) (w : World) (h1 : -9223372036854775808 ≤ c) (h2 : c ≤ 9223372036854775807) (hM : absI c = M) (hS : s = S) (h4 : S ≤ 18) :
    Calls Try.prog 8 #[.agg #[.int .i64 c, .int .i8 s]] w fun e w' => ∃ b, e = .returned (.string b) ∧ StrOut c M S b ∧ Grown w w' := by
  have hMb : M ≤ 9223372036854775808 := by unfold absI at hM; split at hM <;> omega
  subst hS
  have HM := hide hM
  clear hM
  go_enter Try.func8, Try.ntmps8
  go_wp2_with fail
  refine (mag_any _ _ h1 h2).mono ?_
  rw [HM.out]
  rintro e w ⟨rfl, rfl⟩
  go_wp2_with fail
  go_loopw [4, 5, 6] (fun vi vm vn wr => ∃ k i m : Nat, k ≤ 19 ∧ 20 ≤ i + k ∧ i + k ≤ 21 ∧ vi = .int .i64 i ∧ vm = .int .u64 m ∧ vn = .int .i64 k ∧ m ≤ 9223372036854775808 ∧ Hid (m = M / 10 ^ k ∧ (k ≤ S + 1 ∨ 0 < M / 10 ^ (k - 1)) ∧ BufR w c S wr i (strN M S k))) (fun _ _ vn _ => 20 - (intOf vn).toNat)
  case atStart =>
    refine ⟨0, 21, M, by omega, by omega, by omega, rfl, rfl, rfl, hMb, by simp, .inl (by omega), ?_⟩
    refine ⟨((Grown.refl w).alloc _ _).alloc _ _, by simp, by simp, rfl, ?_⟩
    have := World.rowIs_alloc (w.alloc (.cells #[.int .i64 c, .int .i8 (S : Int)] 24)) (Array.replicate 21 (.int .u8 0)) 34 (fun _ => .int .u8 0) (fun i hi => by simp at hi; simp [hi])
    simp only [World.size_alloc] at this
    exact ⟨_, this, fun j v hj => by simp [strN] at hj⟩
  case round =>
    obtain ⟨k, i, m, hk, hi1, hi2, rfl, rfl, rfl, hmb, HR⟩ := hrel
    by_cases hgo : k ≤ S ∨ 0 < m
    · have hk18 : k ≤ 18 := by
        rcases hgo with h | h
        · omega
        · rw [HR.out.1] at h; exact k_le hMb h
      obtain ⟨i', rfl⟩ : ∃ i', i = i' + 2 := ⟨i - 2, by omega⟩
      have b0 := HR.out.2.2.b0
      have b1 := HR.out.2.2.b1
      obtain ⟨u0, u1, x0, x1, fz⟩ : ∃ u0 u1, wr.cell? ⟨w.heap.size + 1, i', none⟩ = some u0 ∧ wr.cell? ⟨w.heap.size + 1, i' + 1, none⟩ = some u1 ∧ ∀ j, wr.frozen? ⟨w.heap.size + 1, j, none⟩ = false := by
        obtain ⟨f, hf, _⟩ := HR.out.2.2.row
        exact ⟨_, _, hf.cell (by omega), hf.cell (by omega), hf.frozen⟩
      have ed : Hid ((48 + (m : Int) % 10) = ((48 + dg M k : Nat) : Int)) := by
        show _ = _
        unfold dg; rw [← HR.out.1]; omega
      have em : Hid (m / 10 = M / 10 ^ (k + 1)) := by
        show _ = _
        rw [div_succ, ← HR.out.1]
      have hmid : Hid (k + 1 ≤ S + 1 ∨ 0 < M / 10 ^ (k + 1 - 1)) := by
        rcases hgo with h | h
        · exact .inl (by omega)
        · rw [HR.out.1] at h; exact .inr h
      by_cases hpt : k = S ∧ 0 < k
      · obtain ⟨rfl, p3⟩ := hpt
        have L := strN_len M k k
        have L2 := HR.out.2.2.len
        rw [if_neg (by omega)] at L
        have L3 : i' + 2 + k = 21 := by omega
        clear hgo L L2
        go_wp2_with fail
        go_roundw
        case rel =>
          rw [ed.out]
          refine ⟨k + 1, i', m / 10, by omega, by omega, by omega, by go_num, by go_num, by go_num, by omega, em.out, hmid.out, ?_⟩
          unfold strN
          rw [if_pos ⟨rfl, p3⟩]
          exact (HR.out.2.2.push 46).push _
        case measure => simp [intOf]; omega
      · have L := strN_len M S k
        have L2 := HR.out.2.2.len
        have es : Hid (strN M S (k + 1) = (48 + dg M k) :: strN M S k) := by
          show _ = _
          rw [strN, if_neg hpt]
        have hcs : k < S ∨ (k ≤ 0 ∧ S ≤ 0) ∨ (S < k ∧ 0 < m) := by omega
        clear hgo hpt L L2
        rcases hcs with h | ⟨h, h'⟩ | ⟨h, h'⟩
        · go_wp2_with fail
          go_roundw
          case rel =>
            rw [ed.out]
            refine ⟨k + 1, i' + 1, m / 10, by omega, by omega, by omega, by go_num, by go_num, by go_num, by omega, em.out, hmid.out, ?_⟩
            rw [es.out]
            exact HR.out.2.2.push _
          case measure => simp [intOf]; omega
        · obtain rfl : k = 0 := by omega
          obtain rfl : S = 0 := by omega
          go_wp2_with fail
          go_roundw
          case rel =>
            rw [ed.out]
            refine ⟨0 + 1, i' + 1, m / 10, by omega, by omega, by omega, by go_num, by go_num, by go_num, by omega, em.out, hmid.out, ?_⟩
            rw [es.out]
            exact HR.out.2.2.push _
          case measure => simp [intOf]
        · go_wp2_with fail
          go_roundw
          case rel =>
            rw [ed.out]
            refine ⟨k + 1, i' + 1, m / 10, by omega, by omega, by omega, by go_num, by go_num, by go_num, by omega, em.out, hmid.out, ?_⟩
            rw [es.out]
            exact HR.out.2.2.push _
          case measure => simp [intOf]; omega
    · have g1 : S < k := by omega
      have g2 : m ≤ 0 := by omega
      have b0 := HR.out.2.2.b0
      have b1 := HR.out.2.2.b1
      have hi20 : i ≤ 20 := by have := strN_len M S k; have := HR.out.2.2.len; omega
      have hz : M / 10 ^ k = 0 := by rw [← HR.out.1]; omega
      have HZ := hide hz
      have HF := hide HR.out.2.1
      clear hz
      have hmem := strN_lt M S k
      by_cases hc : c < 0
      · obtain ⟨i', rfl⟩ : ∃ i', i = i' + 1 := ⟨i - 1, by omega⟩
        obtain ⟨u0, x0, fz⟩ : ∃ u0, wr.cell? ⟨w.heap.size + 1, i', none⟩ = some u0 ∧ ∀ j, wr.frozen? ⟨w.heap.size + 1, j, none⟩ = false := by
          obtain ⟨f, hf, _⟩ := HR.out.2.2.row
          exact ⟨_, hf.cell (by omega), hf.frozen⟩
        have B := HR.out.2.2.push 45
        have hcv := B.conv (fun v hv => by
          simp only [List.mem_cons] at hv
          rcases hv with h | h
          · omega
          · exact hmem v h)
        have hsl := slice34 (w.heap.size + 1) i' (by omega)
        rw [show ((45 : Nat) : Int) = 45 from rfl] at hcv
        have HB := hide B.grown
        clear B hmem
        go_wp2_with fail
        go_ret
        exact ⟨_, rfl, ⟨k, g1, HZ.out, HF.out, hk, by rw [if_pos hc]; rfl⟩, HB.out⟩
      · have hcv := HR.out.2.2.conv hmem
        have hsl := slice34 (w.heap.size + 1) i hi20
        clear hmem
        go_wp2_with fail
        go_ret
        exact ⟨_, rfl, ⟨k, g1, HZ.out, HF.out, hk, by rw [if_neg (by omega)]; rfl⟩, HR.out.2.2.grown⟩
end Go.Proofs.Qxb6003706a
