/-
  CONTRACTS OF THE FIVE CLONES: each hands back a slice that reads as the one that came in, in new memory (nil where it was nil).
-/
import Derived.Test.Qxb6003686aProg
import Derived.Test.Qxb6003686aMem
namespace Go.Proofs.Qxb6003686a
open Go.RowKit
theorem Try.info21 : (Try.prog.info? 21).map (fun i => (i.zero, i.size, i.bytes)) = some (some (.int .i32 0), 1, 4) := by kernel_rfl
theorem Try.info40 : (Try.prog.info? 40).map (fun i => (i.zero, i.size, i.bytes)) = some (some (.int .u32 0), 1, 4) := by kernel_rfl
theorem Try.info3 : (Try.prog.info? 3).map (fun i => (i.zero, i.size, i.bytes)) = some (some (.int .i64 0), 1, 8) := by kernel_rfl
theorem Try.info2 : (Try.prog.info? 2).map (fun i => (i.zero, i.size, i.bytes)) = some (some (.int .i64 0), 1, 8) := by kernel_rfl
theorem Try.info4 : (Try.prog.info? 4).map (fun i => (i.zero, i.size, i.bytes)) = some (some (.bool false), 1, 1) := by kernel_rfl

set_option maxHeartbeats 400000 in
theorem cloneI32 (a : Option Addr) (n cap : Nat) (f : Nat → Value) (w : World) (hone : ∀ i, (f i).oneCell' = true) (h : Sl w a n cap f) (hm : n ≤ 1048576) :
    Calls Try.prog 14 #[.slice a n cap] w fun e w' => ∃ a' cap', e = .returned (.slice a' n cap') ∧ Below w.heap.size w w' ∧ Sl w' a' n cap' f := by
  cases a with
  | none =>
    have hnn := fun w => Lib.run_eql_slice_nil (P := Try.prog) w 35 21 none n cap 0 0 Try.underlying35
    go_enter Try.func14, Try.ntmps14
    go_wp2
    go_ret
    have := h.hnil rfl
    have := h.hle
    obtain rfl : n = 0 := by omega
    exact ⟨none, 0, rfl, Below.refl _ _, Nat.le_refl _, fun _ => rfl, .inl rfl⟩
  | some ad =>
    have hnn := fun w => Lib.run_eql_slice_nil (P := Try.prog) w 35 21 (some ad) n cap 0 0 Try.underlying35
    have hmk := run_make_row' (P := Try.prog) 35 21 (.int .i32 0) 4 Try.underlying35 Try.info21 rfl .i64 .i64 n (by omega) (by omega)
    go_enter Try.func14, Try.ntmps14
    go_wp2_with (refine wpList_copy_splice rfl (.tmp 9) (.tmp 10) 35 35 rfl 21 Try.underlying35 (by kernel_rfl) _ _ n n n cap rfl rfl w.heap.size 0 ((List.range n).map fun _ => .int .i32 0) 21 (rowIs_block (World.rowIs_made w _ n 21)) ((List.range n).map f) (by simp) (fun hp => ⟨rfl, ad, rfl, copy_src h ((Below.refl w.heap.size w).alloc (Nat.le_refl _) _) hp⟩) (by simp) (by intro v hv; obtain ⟨i, _, rfl⟩ := List.mem_map.1 hv; exact hone i) w.heap.size w ((Below.refl _ _).alloc (Nat.le_refl _) _) (Nat.le_refl _) ?hK)
    case hK =>
      intro w1 hr hb
      go_wp2
      go_ret
      refine ⟨some ⟨w.heap.size, 0, none⟩, n, rfl, hb, Sl.of_row (e := 21) ?_ (Nat.le_refl _)⟩
      have hr := hr.out
      rw [splice_all _ _ (by simp)] at hr
      exact rowIs_list hr (by simp) (fun i hi => by simp [hi])

set_option maxHeartbeats 400000 in
theorem cloneU32 (a : Option Addr) (n cap : Nat) (f : Nat → Value) (w : World) (hone : ∀ i, (f i).oneCell' = true) (h : Sl w a n cap f) (hm : n ≤ 1048576) :
    Calls Try.prog 15 #[.slice a n cap] w fun e w' => ∃ a' cap', e = .returned (.slice a' n cap') ∧ Below w.heap.size w w' ∧ Sl w' a' n cap' f := by
  cases a with
  | none =>
    have hnn := fun w => Lib.run_eql_slice_nil (P := Try.prog) w 36 40 none n cap 0 0 Try.underlying36
    go_enter Try.func15, Try.ntmps15
    go_wp2
    go_ret
    have := h.hnil rfl
    have := h.hle
    obtain rfl : n = 0 := by omega
    exact ⟨none, 0, rfl, Below.refl _ _, Nat.le_refl _, fun _ => rfl, .inl rfl⟩
  | some ad =>
    have hnn := fun w => Lib.run_eql_slice_nil (P := Try.prog) w 36 40 (some ad) n cap 0 0 Try.underlying36
    have hmk := run_make_row' (P := Try.prog) 36 40 (.int .u32 0) 4 Try.underlying36 Try.info40 rfl .i64 .i64 n (by omega) (by omega)
    go_enter Try.func15, Try.ntmps15
    go_wp2_with (refine wpList_copy_splice rfl (.tmp 9) (.tmp 10) 36 36 rfl 40 Try.underlying36 (by kernel_rfl) _ _ n n n cap rfl rfl w.heap.size 0 ((List.range n).map fun _ => .int .u32 0) 40 (rowIs_block (World.rowIs_made w _ n 40)) ((List.range n).map f) (by simp) (fun hp => ⟨rfl, ad, rfl, copy_src h ((Below.refl w.heap.size w).alloc (Nat.le_refl _) _) hp⟩) (by simp) (by intro v hv; obtain ⟨i, _, rfl⟩ := List.mem_map.1 hv; exact hone i) w.heap.size w ((Below.refl _ _).alloc (Nat.le_refl _) _) (Nat.le_refl _) ?hK)
    case hK =>
      intro w1 hr hb
      go_wp2
      go_ret
      refine ⟨some ⟨w.heap.size, 0, none⟩, n, rfl, hb, Sl.of_row (e := 40) ?_ (Nat.le_refl _)⟩
      have hr := hr.out
      rw [splice_all _ _ (by simp)] at hr
      exact rowIs_list hr (by simp) (fun i hi => by simp [hi])

set_option maxHeartbeats 400000 in
theorem cloneInt (a : Option Addr) (n cap : Nat) (f : Nat → Value) (w : World) (hone : ∀ i, (f i).oneCell' = true) (h : Sl w a n cap f) (hm : n ≤ 1048576) :
    Calls Try.prog 10 #[.slice a n cap] w fun e w' => ∃ a' cap', e = .returned (.slice a' n cap') ∧ Below w.heap.size w w' ∧ Sl w' a' n cap' f := by
  cases a with
  | none =>
    have hnn := fun w => Lib.run_eql_slice_nil (P := Try.prog) w 23 3 none n cap 0 0 Try.underlying23
    go_enter Try.func10, Try.ntmps10
    go_wp2
    go_ret
    have := h.hnil rfl
    have := h.hle
    obtain rfl : n = 0 := by omega
    exact ⟨none, 0, rfl, Below.refl _ _, Nat.le_refl _, fun _ => rfl, .inl rfl⟩
  | some ad =>
    have hnn := fun w => Lib.run_eql_slice_nil (P := Try.prog) w 23 3 (some ad) n cap 0 0 Try.underlying23
    have hmk := run_make_row' (P := Try.prog) 23 3 (.int .i64 0) 8 Try.underlying23 Try.info3 rfl .i64 .i64 n (by omega) (by omega)
    go_enter Try.func10, Try.ntmps10
    go_wp2_with (refine wpList_copy_splice rfl (.tmp 9) (.tmp 10) 23 23 rfl 3 Try.underlying23 (by kernel_rfl) _ _ n n n cap rfl rfl w.heap.size 0 ((List.range n).map fun _ => .int .i64 0) 3 (rowIs_block (World.rowIs_made w _ n 3)) ((List.range n).map f) (by simp) (fun hp => ⟨rfl, ad, rfl, copy_src h ((Below.refl w.heap.size w).alloc (Nat.le_refl _) _) hp⟩) (by simp) (by intro v hv; obtain ⟨i, _, rfl⟩ := List.mem_map.1 hv; exact hone i) w.heap.size w ((Below.refl _ _).alloc (Nat.le_refl _) _) (Nat.le_refl _) ?hK)
    case hK =>
      intro w1 hr hb
      go_wp2
      go_ret
      refine ⟨some ⟨w.heap.size, 0, none⟩, n, rfl, hb, Sl.of_row (e := 3) ?_ (Nat.le_refl _)⟩
      have hr := hr.out
      rw [splice_all _ _ (by simp)] at hr
      exact rowIs_list hr (by simp) (fun i hi => by simp [hi])

set_option maxHeartbeats 400000 in
theorem cloneI64 (a : Option Addr) (n cap : Nat) (f : Nat → Value) (w : World) (hone : ∀ i, (f i).oneCell' = true) (h : Sl w a n cap f) (hm : n ≤ 1048576) :
    Calls Try.prog 9 #[.slice a n cap] w fun e w' => ∃ a' cap', e = .returned (.slice a' n cap') ∧ Below w.heap.size w w' ∧ Sl w' a' n cap' f := by
  cases a with
  | none =>
    have hnn := fun w => Lib.run_eql_slice_nil (P := Try.prog) w 22 2 none n cap 0 0 Try.underlying22
    go_enter Try.func9, Try.ntmps9
    go_wp2
    go_ret
    have := h.hnil rfl
    have := h.hle
    obtain rfl : n = 0 := by omega
    exact ⟨none, 0, rfl, Below.refl _ _, Nat.le_refl _, fun _ => rfl, .inl rfl⟩
  | some ad =>
    have hnn := fun w => Lib.run_eql_slice_nil (P := Try.prog) w 22 2 (some ad) n cap 0 0 Try.underlying22
    have hmk := run_make_row' (P := Try.prog) 22 2 (.int .i64 0) 8 Try.underlying22 Try.info2 rfl .i64 .i64 n (by omega) (by omega)
    go_enter Try.func9, Try.ntmps9
    go_wp2_with (refine wpList_copy_splice rfl (.tmp 9) (.tmp 10) 22 22 rfl 2 Try.underlying22 (by kernel_rfl) _ _ n n n cap rfl rfl w.heap.size 0 ((List.range n).map fun _ => .int .i64 0) 2 (rowIs_block (World.rowIs_made w _ n 2)) ((List.range n).map f) (by simp) (fun hp => ⟨rfl, ad, rfl, copy_src h ((Below.refl w.heap.size w).alloc (Nat.le_refl _) _) hp⟩) (by simp) (by intro v hv; obtain ⟨i, _, rfl⟩ := List.mem_map.1 hv; exact hone i) w.heap.size w ((Below.refl _ _).alloc (Nat.le_refl _) _) (Nat.le_refl _) ?hK)
    case hK =>
      intro w1 hr hb
      go_wp2
      go_ret
      refine ⟨some ⟨w.heap.size, 0, none⟩, n, rfl, hb, Sl.of_row (e := 2) ?_ (Nat.le_refl _)⟩
      have hr := hr.out
      rw [splice_all _ _ (by simp)] at hr
      exact rowIs_list hr (by simp) (fun i hi => by simp [hi])

set_option maxHeartbeats 400000 in
theorem cloneBool (a : Option Addr) (n cap : Nat) (f : Nat → Value) (w : World) (hone : ∀ i, (f i).oneCell' = true) (h : Sl w a n cap f) (hm : n ≤ 1048576) :
    Calls Try.prog 11 #[.slice a n cap] w fun e w' => ∃ a' cap', e = .returned (.slice a' n cap') ∧ Below w.heap.size w w' ∧ Sl w' a' n cap' f := by
  cases a with
  | none =>
    have hnn := fun w => Lib.run_eql_slice_nil (P := Try.prog) w 24 4 none n cap 0 0 Try.underlying24
    go_enter Try.func11, Try.ntmps11
    go_wp2
    go_ret
    have := h.hnil rfl
    have := h.hle
    obtain rfl : n = 0 := by omega
    exact ⟨none, 0, rfl, Below.refl _ _, Nat.le_refl _, fun _ => rfl, .inl rfl⟩
  | some ad =>
    have hnn := fun w => Lib.run_eql_slice_nil (P := Try.prog) w 24 4 (some ad) n cap 0 0 Try.underlying24
    have hmk := run_make_row' (P := Try.prog) 24 4 (.bool false) 1 Try.underlying24 Try.info4 rfl .i64 .i64 n (by omega) (by omega)
    go_enter Try.func11, Try.ntmps11
    go_wp2_with (refine wpList_copy_splice rfl (.tmp 9) (.tmp 10) 24 24 rfl 4 Try.underlying24 (by kernel_rfl) _ _ n n n cap rfl rfl w.heap.size 0 ((List.range n).map fun _ => .bool false) 4 (rowIs_block (World.rowIs_made w _ n 4)) ((List.range n).map f) (by simp) (fun hp => ⟨rfl, ad, rfl, copy_src h ((Below.refl w.heap.size w).alloc (Nat.le_refl _) _) hp⟩) (by simp) (by intro v hv; obtain ⟨i, _, rfl⟩ := List.mem_map.1 hv; exact hone i) w.heap.size w ((Below.refl _ _).alloc (Nat.le_refl _) _) (Nat.le_refl _) ?hK)
    case hK =>
      intro w1 hr hb
      go_wp2
      go_ret
      refine ⟨some ⟨w.heap.size, 0, none⟩, n, rfl, hb, Sl.of_row (e := 4) ?_ (Nat.le_refl _)⟩
      have hr := hr.out
      rw [splice_all _ _ (by simp)] at hr
      exact rowIs_list hr (by simp) (fun i hi => by simp [hi])

end Go.Proofs.Qxb6003686a
