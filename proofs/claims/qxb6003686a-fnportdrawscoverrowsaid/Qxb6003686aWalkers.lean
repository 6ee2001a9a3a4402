import Derived.Test.Qxb6003686aClone
namespace Go.Proofs.Qxb6003686a
open Go.RowKit
theorem Try.info60 : (Try.prog.info? 60).map (fun i => (i.zero, i.size, i.bytes)) = some (some (.agg #[.int .i32 0, .int .i32 0]), 2, 8) := by kernel_rfl

/-- The cells of a row of walkers. -/
def wcell (A O : Nat → Int) (c : Nat) : Value := if c % 2 = 0 then .int .i32 (A (c / 2)) else .int .i32 (O (c / 2))

def wpart (A O : Nat → Int) (k c : Nat) : Value := if c < 2 * k then wcell A O c else .int .i32 0

theorem wrow_step {A O : Nat → Int} {w : World} {g n k : Nat} (h : w.rowIs g 60 (2 * n) (wpart A O k)) :
    ((w.setCell ⟨g, k * 2, none⟩ (.int .i32 (A k))).setCell ⟨g, k * 2 + 1, none⟩ (.int .i32 (O k))).drew.rowIs g 60 (2 * n) (wpart A O (k + 1)) := by
  refine ((h.set (k * 2) _).set (k * 2 + 1) _).drew.congr ?_
  intro i hi
  unfold wpart wcell
  by_cases h1 : i = k * 2 + 1
  · subst h1
    have e1 : (k * 2 + 1) % 2 = 1 := by omega
    have e2 : (k * 2 + 1) / 2 = k := by omega
    rw [if_pos rfl, if_pos (by omega), e1, e2]; rfl
  · rw [if_neg h1]
    by_cases h2 : i = k * 2
    · subst h2
      rw [if_pos rfl, if_pos (by omega), if_pos (by omega)]
      congr 2; omega
    · rw [if_neg h2]
      by_cases h3 : i < 2 * k
      · rw [if_pos h3, if_pos (show i < 2 * (k + 1) by omega)]
      · rw [if_neg h3, if_neg (show ¬ i < 2 * (k + 1) by omega)]

set_option maxHeartbeats 400000 in
theorem walkers (a0 a1 : Option Addr) (n c0 c1 : Nat) (A O : Nat → Int) (w : World) (h0 : Sl w a0 n c0 (fun i => .int .i32 (A i))) (h1 : Sl w a1 n c1 (fun i => .int .i32 (O i))) (hm : n ≤ 1048576) :
    Calls Try.prog 16 #[.slice a0 n c0, .slice a1 n c1] w fun e w' => e = .returned (.slice (some ⟨w.heap.size, 0, none⟩) n n) ∧ Below w.heap.size w w' ∧ w'.rowIs w.heap.size 60 (2 * n) (wcell A O) := by
  have hmk := run_make_rows (P := Try.prog) 42 60 #[.int .i32 0, .int .i32 0] (.agg #[.int .i32 0, .int .i32 0]) 2 8 (2 * n) Try.underlying42 Try.info60 rfl .i64 .i64 n (by omega) (by omega) (by omega)
  go_enter Try.func16, Try.ntmps16
  go_wp2_with fail
  go_loopw [6] (fun i wr => ∃ k : Nat, k ≤ n ∧ i = .int .i64 k ∧ Below w.heap.size w wr ∧ wr.rowIs w.heap.size 60 (2 * n) (wpart A O k)) (fun i _ => n - (intOf i).toNat)
  case atStart =>
    refine ⟨0, Nat.zero_le _, rfl, (Below.refl _ _).alloc (Nat.le_refl _) _, (rowIs_madeCells w _ _ 60).congr ?_⟩
    intro i hi
    have : i % 2 = 0 ∨ i % 2 = 1 := by omega
    rcases this with h | h <;> simp [h, wpart]
  case round =>
    obtain ⟨k, hk, rfl, hb, hrow⟩ := hrel
    by_cases hlt : k < n
    · obtain ⟨b0, o0, ha0, hl0, hc0⟩ := h0.at (by omega)
      obtain ⟨b1, o1, ha1, hl1, hc1⟩ := h1.at (by omega)
      subst ha0 ha1
      have e0 := (hb.cell (p := ⟨b0, o0 + k, none⟩) hl0).trans (hc0 k hlt)
      have e1 := (hb.cell (p := ⟨b1, o1 + k, none⟩) hl1).trans (hc1 k hlt)
      clear hc0 hc1
      have f0 := hrow.frozen
      have x0 := hrow.cell (i := k * 2) (by omega)
      have x1 := hrow.cell (i := k * 2 + 1) (by omega)
      go_wp2
      go_region
      go_wp2
      go_roundw
      case rel =>
        refine ⟨k + 1, by omega, by go_num, ((hb.setCell (Nat.le_refl _) _).setCell (Nat.le_refl _) _).drew, ?_⟩
        exact wrow_step hrow
      case measure => simp [intOf]; omega
    · go_wp2
      go_ret
      exact ⟨rfl, hb, hrow.congr (fun c hc => by unfold wpart; rw [if_pos (by omega)])⟩


def fpart (A : Nat → Int) (k c : Nat) : Value := if c < k then .int .i32 (A c) else .int .i32 0

theorem frow_step {A : Nat → Int} {w : World} {g n k : Nat} (h : w.rowIs g 21 n (fpart A k)) :
    (w.setCell ⟨g, k, none⟩ (.int .i32 (A k))).rowIs g 21 n (fpart A (k + 1)) := by
  refine (h.set k _).congr ?_
  intro i hi
  unfold fpart
  by_cases h1 : i = k
  · subst h1
    rw [if_pos rfl, if_pos (by omega)]
  · rw [if_neg h1]
    by_cases h3 : i < k
    · rw [if_pos h3, if_pos (show i < k + 1 by omega)]
    · rw [if_neg h3, if_neg (show ¬ i < k + 1 by omega)]

set_option maxHeartbeats 400000 in
theorem walkerFields (g n cap : Nat) (A O : Nat → Int) (w : World) (hg : g < w.heap.size) (hc : ∀ j, j < n → w.cell? ⟨g, j * 2, none⟩ = some (.int .i32 (A j)) ∧ w.cell? ⟨g, j * 2 + 1, none⟩ = some (.int .i32 (O j))) (hm : n ≤ 1048576) :
    Calls Try.prog 18 #[.slice (some ⟨g, 0, none⟩) n cap] w fun e w' => e = .returned (.tuple #[.slice (some ⟨w.heap.size, 0, none⟩) n n, .slice (some ⟨w.heap.size + 1, 0, none⟩) n n]) ∧ Below w.heap.size w w' ∧
      w'.rowIs w.heap.size 21 n (fun i => .int .i32 (A i)) ∧ w'.rowIs (w.heap.size + 1) 21 n (fun i => .int .i32 (O i)) := by
  have hmk := run_make_row' (P := Try.prog) 35 21 (.int .i32 0) 4 Try.underlying35 Try.info21 rfl .i64 .i64 n (by omega) (by omega)
  go_enter Try.func18, Try.ntmps18
  go_wp2_with fail
  go_loopw [6] (fun i wr => ∃ k : Nat, k ≤ n ∧ i = .int .i64 k ∧ Below w.heap.size w wr ∧ wr.rowIs w.heap.size 21 n (fpart A k) ∧ wr.rowIs (w.heap.size + 1) 21 n (fpart O k)) (fun i _ => n - (intOf i).toNat)
  case atStart =>
    refine ⟨0, Nat.zero_le _, rfl, ((Below.refl _ _).alloc (Nat.le_refl _) _).alloc (by simp) _, ((World.rowIs_made w _ n 21).alloc _).congr ?_, ?_⟩
    · intro i hi; simp [fpart]
    · have := World.rowIs_made (w.alloc (.cells (madeCells #[.int .i32 0] n) 21)) (.int .i32 0) n 21
      simp only [World.size_alloc] at this
      refine this.congr ?_
      intro i hi; simp [fpart]
  case round =>
    obtain ⟨k, hk, rfl, hb, hr0, hr1⟩ := hrel
    by_cases hlt : k < n
    · have e0 := (hb.cell (p := ⟨g, k * 2, none⟩) hg).trans (hc k hlt).1
      have e1 := (hb.cell (p := ⟨g, k * 2 + 1, none⟩) hg).trans (hc k hlt).2
      have f0 := hr0.frozen
      have f1 := hr1.frozen
      have x0 := hr0.cell hlt
      have x1 := hr1.cell hlt
      go_wp2
      go_roundw
      case rel =>
        exact ⟨k + 1, by omega, by go_num, (hb.setCell (Nat.le_refl _) _).setCell (by simp) _, (frow_step hr0).setOther (by simp) _, frow_step (hr1.setOther (by simp) _)⟩
      case measure => simp [intOf]; omega
    · go_wp2
      go_ret2
      exact ⟨rfl, hb, hr0.congr (fun c hc => by unfold fpart; rw [if_pos (by omega)]), hr1.congr (fun c hc => by unfold fpart; rw [if_pos (by omega)])⟩
end Go.Proofs.Qxb6003686a
