/-
  THE CONTRACT OF zzSortU32, and: two sorted rows with the same numbers are equal.
-/
import Derived.Test.Qxb6003686aClone
namespace Go.Proofs.Qxb6003686a
open Go.RowKit

theorem range_split (k w : Nat) (h : k + 1 < w) : List.range w = List.range k ++ k :: (k + 1) :: List.range' (k + 2) (w - k - 2) := by
  rw [List.range_eq_range', List.range_eq_range']
  have e1 : w = k + ((w - k - 2) + 1 + 1) := by omega
  have e2 : List.range' 0 w = List.range' 0 k ++ List.range' (0 + k) ((w - k - 2) + 1 + 1) := by
    rw [List.range'_append_1, ← e1]
  rw [e2, List.range'_succ, List.range'_succ, Nat.zero_add]

theorem swap_perm (w k : Nat) (f g : Nat → Nat) (h : k + 1 < w) (h1 : g k = f (k + 1)) (h2 : g (k + 1) = f k) (h3 : ∀ i, i ≠ k → i ≠ k + 1 → g i = f i) :
    ((List.range w).map g).Perm ((List.range w).map f) := by
  rw [range_split k w h]
  simp only [List.map_append, List.map_cons, h1, h2]
  have a1 : (List.range k).map g = (List.range k).map f := by
    apply List.map_congr_left
    intro i hi
    have := List.mem_range.1 hi
    exact h3 i (by omega) (by omega)
  have a2 : (List.range' (k + 2) (w - k - 2)).map g = (List.range' (k + 2) (w - k - 2)).map f := by
    apply List.map_congr_left
    intro i hi
    have := List.mem_range'_1.1 hi
    exact h3 i (by omega) (by omega)
  rw [a1, a2]
  exact List.Perm.append_left _ (List.Perm.swap _ _ _)

/-- What the inner loop keeps. -/
structure In (w i j : Nat) (f f0 : Nat → Nat) : Prop where
  perm : ((List.range w).map f).Perm ((List.range w).map f0)
  p1 : ∀ a b, a < b → b ≤ i → a ≠ j → b ≠ j → f a ≤ f b
  p2 : ∀ b, j < b → b ≤ i → f j ≤ f b

theorem In.swap {w i j : Nat} {f f0 : Nat → Nat} (h : In w i (j + 1) f f0) (hi : i < w) (hj : j + 1 ≤ i) (hgt : f (j + 1) < f j) : In w i j (fun x => if x = j then f (j + 1) else if x = j + 1 then f j else f x) f0 := by
  refine ⟨List.Perm.trans (swap_perm w j f _ (by omega) (by simp) (by simp) (fun i h1 h2 => by simp [h1, h2])) h.perm, ?_, ?_⟩
  · intro a b hab hbi ha hb
    simp only [if_neg ha, if_neg hb]
    by_cases e1 : a = j + 1
    · have e2 : b ≠ j + 1 := by omega
      rw [if_pos e1, if_neg e2]
      exact h.p1 j b (by omega) hbi (by omega) e2
    · rw [if_neg e1]
      by_cases e2 : b = j + 1
      · rw [if_pos e2]
        exact h.p1 a j (by omega) (by omega) e1 (by omega)
      · rw [if_neg e2]
        exact h.p1 a b hab hbi e1 e2
  · intro b hb hbi
    have e0 : b ≠ j := by omega
    simp only [if_true, if_neg e0]
    by_cases e2 : b = j + 1
    · rw [if_pos e2]; omega
    · rw [if_neg e2]
      exact h.p2 b (by omega) hbi

structure Out (w i : Nat) (f f0 : Nat → Nat) : Prop where
  perm : ((List.range w).map f).Perm ((List.range w).map f0)
  sorted : ∀ a b, a < b → b < i → f a ≤ f b

theorem Out.inner {w i : Nat} {f f0 : Nat → Nat} (h : Out w i f f0) : In w i i f f0 :=
  ⟨h.perm, fun a b hab hb _ hb2 => h.sorted a b hab (by omega), fun b h1 h2 => by omega⟩

theorem In.out0 {w i : Nat} {f f0 : Nat → Nat} (h : In w i 0 f f0) : Out w (i + 1) f f0 := by
  refine ⟨h.perm, fun a b hab hb => ?_⟩
  by_cases e : a = 0
  · subst e; exact h.p2 b hab (by omega)
  · exact h.p1 a b hab (by omega) e (by omega)
theorem In.outj {w i j : Nat} {f f0 : Nat → Nat} (h : In w i (j + 1) f f0) (hle : f j ≤ f (j + 1)) : Out w (i + 1) f f0 := by
  refine ⟨h.perm, fun a b hab hb => ?_⟩
  by_cases e : a = j + 1
  · subst e; exact h.p2 b hab (by omega)
  · by_cases e2 : b = j + 1
    · subst e2
      by_cases e3 : a = j
      · subst e3; exact hle
      · exact Nat.le_trans (h.p1 a j (by omega) (by omega) e (by omega)) hle
    · exact h.p1 a b hab (by omega) e e2

theorem gset {p : Nat} {a w : World} (h : But (fun b => b = p) a w) (i : Nat) (v : Value) : But (fun b => b = p) a (w.setCell ⟨p, i, none⟩ v) := h.setCell rfl v

theorem sorted_unique : ∀ {l k : List Nat}, l.Perm k → l.Pairwise (· ≤ ·) → k.Pairwise (· ≤ ·) → l = k
  | [], k, h, _, _ => by rw [List.nil_perm.1 h]
  | a :: l, [], h, _, _ => by have := h.length_eq; simp at this
  | a :: l, b :: k, h, hl, hk => by
    have h1 := (List.pairwise_cons.1 hl).1
    have h2 := (List.pairwise_cons.1 hk).1
    have e : a = b := by
      have m1 : a ∈ b :: k := h.subset (List.mem_cons_self ..)
      have m2 : b ∈ a :: l := h.symm.subset (List.mem_cons_self ..)
      have le1 : b ≤ a := by
        rcases List.mem_cons.1 m1 with e | e
        · omega
        · exact h2 _ e
      have le2 : a ≤ b := by
        rcases List.mem_cons.1 m2 with e | e
        · omega
        · exact h1 _ e
      omega
    subst e
    rw [sorted_unique (List.Perm.cons_inv h) (List.pairwise_cons.1 hl).2 (List.pairwise_cons.1 hk).2]

theorem pairwise_range (m : Nat) (f : Nat → Nat) (h : ∀ a b, a < b → b < m → f a ≤ f b) : ((List.range m).map f).Pairwise (· ≤ ·) := by
  rw [List.pairwise_map]
  rw [List.pairwise_iff_getElem]
  intro i j hi hj hij
  simp only [List.getElem_range]
  exact h i j hij (by simpa using hj)

theorem Out.eq {m : Nat} {f g f0 g0 : Nat → Nat} (hf : Out m m f f0) (hg : Out m m g g0) (hp : ((List.range m).map f0).Perm ((List.range m).map g0)) (i : Nat) (hi : i < m) : f i = g i := by
  have e := sorted_unique ((hf.perm.trans hp).trans hg.perm.symm) (pairwise_range m f hf.sorted) (pairwise_range m g hg.sorted)
  have := congrArg (fun l : List Nat => l[i]?) e
  simpa [hi] using this

set_option maxRecDepth 100000 in
set_option maxHeartbeats 1000000 in
theorem zzsort (g m : Nat) (f0 : Nat → Nat) (w : World) (hr : w.rowIs g 40 m (fun i => .int .u32 (f0 i : Int))) (hm : m ≤ 64) :
    Calls Try.prog 25 #[.slice (some ⟨g, 0, none⟩) m m] w fun e w' => e = .returned (.tuple #[]) ∧ But (fun b => b = g) w w' ∧ ∃ f, w'.rowIs g 40 m (fun i => .int .u32 (f i : Int)) ∧ Out m m f f0 := by
  have hstart := hide (show Out m 1 f0 f0 from ⟨List.Perm.refl _, fun a b h1 h2 => by omega⟩)
  replace hr := hide hr
  go_enter Try.func25, Try.ntmps25
  go_wp2_with fail
  go_loopw [2] (fun v wr => ∃ (i : Nat) (f : Nat → Nat), 1 ≤ i ∧ (i ≤ m ∨ i = 1) ∧ v = .int .i64 i ∧ Hid (But (fun b => b = g) w wr ∧ wr.rowIs g 40 m (fun i => .int .u32 (f i : Int)) ∧ Out m i f f0)) (fun v _ => m - (intOf v).toNat)
  case atStart => exact ⟨1, f0, Nat.le_refl _, .inr rfl, rfl, But.refl _ _, hr.out, hstart.out⟩
  case round =>
    obtain ⟨i, f, hi1, him, rfl, H⟩ := hrel
    obtain ⟨wo, rfl⟩ : ∃ wo : World, wo = wr := ⟨_, rfl⟩
    by_cases hlt : i < m
    · go_wp2_with fail
      go_loopw [3] (fun v wr => ∃ (j : Nat) (f : Nat → Nat), j ≤ i ∧ v = .int .i64 j ∧ Hid (But (fun b => b = g) w wr ∧ wr.rowIs g 40 m (fun i => .int .u32 (f i : Int)) ∧ In m i j f f0)) (fun v _ => (intOf v).toNat)
      case atStart => exact ⟨i, f, Nat.le_refl _, rfl, H.out.1, H.out.2.1, H.out.2.2.inner⟩
      case round =>
        obtain ⟨j, f1, hj, rfl, HJ⟩ := hrel
        cases j with
        | zero =>
          go_wp2_with fail
          go_quiet (fail)
          go_wp2_with fail
          go_roundw
          case rel => exact ⟨i + 1, f1, by omega, .inl (by omega), by go_num, HJ.out.1.drewN _, HJ.out.2.1, HJ.out.2.2.out0⟩
          case measure => simp [intOf]; omega
        | succ j =>
          have c0 := HJ.out.2.1.cell (i := j) (by omega)
          have c1 := HJ.out.2.1.cell (i := j + 1) (by omega)
          have fz := HJ.out.2.1.frozen
          by_cases hgt : f1 (j + 1) < f1 j
          · have st := hide (HJ.out.2.2.swap hlt hj hgt)
            obtain ⟨x, hx⟩ : ∃ x, x = f1 j := ⟨_, rfl⟩
            obtain ⟨y, hy⟩ : ∃ y, y = f1 (j + 1) := ⟨_, rfl⟩
            rw [← hx] at c0 hgt
            rw [← hy] at c1 hgt
            replace hx := hide hx
            replace hy := hide hy
            go_wp2_with fail
            go_quiet (fail)
            go_wp2_with fail
            go_roundw
            case rel =>
              have hrow : (wr.drewN nq).rowIs g 40 m (fun i => .int .u32 (f1 i : Int)) := HJ.out.2.1
              refine ⟨j, _, by omega, rfl, gset (gset (HJ.out.1.drewN _) _ _) _ _, ((hrow.set j _).set (j + 1) _).congr ?_, st.out⟩
              intro x' _
              by_cases e1 : x' = j
              · have e2 : x' ≠ j + 1 := by omega
                simp only [if_neg e2, if_pos e1, hy.out]
              · by_cases e2 : x' = j + 1
                · simp only [if_pos e2, if_neg e1, hx.out]
                · simp only [if_neg e2, if_neg e1]
            case measure => simp [intOf]
          · obtain ⟨x, hx⟩ : ∃ x, x = f1 j := ⟨_, rfl⟩
            obtain ⟨y, hy⟩ : ∃ y, y = f1 (j + 1) := ⟨_, rfl⟩
            rw [← hx] at c0 hgt
            rw [← hy] at c1 hgt
            replace hx := hide hx
            replace hy := hide hy
            go_wp2_with fail
            go_quiet (fail)
            go_wp2_with fail
            go_roundw
            case rel => exact ⟨i + 1, f1, by omega, .inl (by omega), by go_num, HJ.out.1.drewN _, HJ.out.2.1, HJ.out.2.2.outj (by rw [← hx.out, ← hy.out]; omega)⟩
            case measure => simp [intOf]; omega
    · go_wp2_with fail
      go_end0
      refine ⟨rfl, H.out.1, f, H.out.2.1, H.out.2.2.perm, fun a b hab hb => ?_⟩
      rcases him with h | h
      · exact H.out.2.2.sorted a b hab (by omega)
      · omega

end Go.Proofs.Qxb6003686a
