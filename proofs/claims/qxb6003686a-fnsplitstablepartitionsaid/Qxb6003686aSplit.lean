/-
  THE CONTRACT OF tokens.split (and ZZsplit): a stable partition, 'stayed' being 'block' itself or a row of its own.
-/
import Derived.Test.Qxb6003686aWalkers
import Derived.WalkSmall
namespace Go.Proofs.Qxb6003686a
open Go.RowKit

/-! ### The plain part -/
def sameB (t a : Int) : Bool := bits BinOp.xor IntKind.u32 t (a % 4294967296) / 2048 == 0
def stayP (A T : Nat → Int) (i : Nat) : Bool := (T i != 2147483647) && sameB (T i) (A i)
def moveP (A T : Nat → Int) (i : Nat) : Bool := (T i != 2147483647) && !sameB (T i) (A i)
def pick (p : Nat → Bool) (k : Nat) : List Nat := (List.range k).filter p

theorem pick_succ (p : Nat → Bool) (k : Nat) : pick p (k + 1) = pick p k ++ (if p k then [k] else []) := by
  unfold pick
  rw [List.range_succ, List.filter_append]
  by_cases h : p k <;> simp [h]

theorem pick_yes {p : Nat → Bool} {k : Nat} (h : p k = true) : (pick p (k + 1)).length = (pick p k).length + 1 := by rw [pick_succ]; simp [h]
theorem pick_no {p : Nat → Bool} {k : Nat} (h : p k = false) : (pick p (k + 1)).length = (pick p k).length := by rw [pick_succ]; simp [h]
theorem pick_le (p : Nat → Bool) (k : Nat) : (pick p k).length ≤ k := by
  have := List.length_filter_le p (List.range k)
  simpa [pick] using this
theorem pick_mono (p : Nat → Bool) (n k : Nat) (h : k ≤ n) : (pick p k).length ≤ (pick p n).length := by
  induction n with
  | zero => obtain rfl : k = 0 := by omega
            exact Nat.le_refl _
  | succ n ih =>
    by_cases e : k = n + 1
    · subst e; exact Nat.le_refl _
    · have := ih (by omega)
      rw [pick_succ, List.length_append]; omega

/-- What the picked walkers' cells hold. -/
def Picked (O T : Nat → Int) (p : Nat → Bool) (k : Nat) (f : Nat → Value) : Prop :=
  ∀ j i, (pick p k)[j]? = some i → f (j * 2) = .int .i32 (wrap32 (T i)) ∧ f (j * 2 + 1) = .int .i32 (O i)

theorem Picked.step {O T : Nat → Int} {p : Nat → Bool} {k s : Nat} {f : Nat → Value} (h : Picked O T p k f) (hs : (pick p k).length = s) :
    Picked O T p (k + 1) (fun c => if c = s * 2 + 1 then .int .i32 (O k) else if c = s * 2 then .int .i32 (wrap32 (T k)) else f c) := by
  intro j i hj
  rw [pick_succ] at hj
  by_cases hlt : j < s
  · rw [List.getElem?_append_left (by omega)] at hj
    have := h j i hj
    simp only
    rw [if_neg (by omega), if_neg (by omega), if_neg (by omega), if_neg (by omega)]
    exact this
  · rw [List.getElem?_append_right (by omega)] at hj
    by_cases hp : p k = true
    · rw [if_pos hp] at hj
      have hj0 : j - (pick p k).length = 0 := by
        have := (List.getElem?_eq_some_iff.1 hj).1
        simp at this; omega
      rw [hj0] at hj
      simp at hj
      subst hj
      obtain rfl : j = s := by omega
      simp only
      rw [if_neg (by omega)]
      simp
    · rw [if_neg hp] at hj
      simp at hj

/-- The split's loop, behind k rounds. -/
structure SplitR (w : World) (gB gS gM n k : Nat) (A O T : Nat → Int) (wr : World) : Prop where
  bel : Below gS w wr
  lt : gM < wr.heap.size
  blk : ∀ j, k ≤ j → j < n → wr.cell? ⟨gB, j * 2, none⟩ = some (.int .i32 (A j)) ∧ wr.cell? ⟨gB, j * 2 + 1, none⟩ = some (.int .i32 (O j))
  sr : ∃ f, wr.rowIs gS 60 (2 * n) f ∧ Picked O T (stayP A T) k f
  mr : ∃ f, wr.rowIs gM 60 (2 * n) f ∧ Picked O T (moveP A T) k f

theorem SplitR.step {w wr : World} {gB gS gM n k : Nat} {A O T : Nat → Int} (h : SplitR w gB gS gM n k A O T wr) (hBS : gB ≤ gS) (hSM : gS < gM)
    {s m : Nat} (hs : (pick (stayP A T) k).length = s) (hm : (pick (moveP A T) k).length = m) (o1 o2 : Obj) :
    SplitR w gB gS gM n (k + 1) A O T ((((((wr.alloc o1).alloc o2).setCell ⟨gS, s * 2, none⟩ (.int .i32 (wrap32 (T k)))).setCell ⟨gS, s * 2 + 1, none⟩ (.int .i32 (O k))).setCell ⟨gM, m * 2, none⟩ (.int .i32 (wrap32 (T k)))).setCell ⟨gM, m * 2 + 1, none⟩ (.int .i32 (O k))) := by
  obtain ⟨fS, hS, pS⟩ := h.sr
  obtain ⟨fM, hM, pM⟩ := h.mr
  have sz := h.lt
  have hk := pick_le (stayP A T) k
  refine ⟨?_, ?_, ?_, ?_, ?_⟩
  · exact (((((h.bel.alloc (by omega) _).alloc (by simp; omega) _).setCell (by simp) _).setCell (by simp) _).setCell (by simp; omega) _).setCell (by simp; omega) _
  · simp; omega
  · intro j hj hjn
    have := h.blk j (by omega) hjn
    constructor
    · rw [cellNe (by omega), cellNe (by omega), cellNe (by omega), cellNe (by omega)]
      exact acell (acell this.1)
    · rw [cellNe (by omega), cellNe (by omega), cellNe (by omega), cellNe (by omega)]
      exact acell (acell this.2)
  · refine ⟨_, (((((hS.alloc _).alloc _).set (s * 2) _).set (s * 2 + 1) _).setOther (by simp; omega) _).setOther (by simp; omega) _, ?_⟩
    exact pS.step hs
  · refine ⟨_, (((((hM.alloc _).alloc _).setOther (by simp; omega) _).setOther (by simp; omega) _).set (m * 2) _).set (m * 2 + 1) _, ?_⟩
    exact pM.step hm

theorem SplitR.drewN {w wr : World} {gB gS gM n k : Nat} {A O T : Nat → Int} (h : SplitR w gB gS gM n k A O T wr) (q : Nat) : SplitR w gB gS gM n k A O T (wr.drewN q) :=
  ⟨bdrewN h.bel q, h.lt, h.blk, h.sr, h.mr⟩

theorem lens_elim {A T : Nat → Int} {k s m : Nat} (h : (T k != 2147483647) = false) (hs : (pick (stayP A T) k).length = s) (hm : (pick (moveP A T) k).length = m) :
    (pick (stayP A T) (k + 1)).length = s ∧ (pick (moveP A T) (k + 1)).length = m :=
  ⟨(pick_no (by simp only [stayP, h, Bool.false_and])).trans hs, (pick_no (by simp only [moveP, h, Bool.false_and])).trans hm⟩
theorem lens_stay {A T : Nat → Int} {k s m : Nat} (h : (T k != 2147483647) = true) (h2 : (bits BinOp.xor IntKind.u32 (T k) (A k % 4294967296) / 2048 == 0) = true) (hs : (pick (stayP A T) k).length = s) (hm : (pick (moveP A T) k).length = m) :
    (pick (stayP A T) (k + 1)).length = s + 1 ∧ (pick (moveP A T) (k + 1)).length = m :=
  ⟨(pick_yes (by simp only [stayP, sameB, h, h2, Bool.and_self])).trans (by rw [hs]), (pick_no (by simp only [moveP, sameB, h, h2, Bool.not_true, Bool.and_false])).trans hm⟩
theorem lens_move {A T : Nat → Int} {k s m : Nat} (h : (T k != 2147483647) = true) (h2 : (bits BinOp.xor IntKind.u32 (T k) (A k % 4294967296) / 2048 == 0) = false) (hs : (pick (stayP A T) k).length = s) (hm : (pick (moveP A T) k).length = m) :
    (pick (stayP A T) (k + 1)).length = s ∧ (pick (moveP A T) (k + 1)).length = m + 1 :=
  ⟨(pick_no (by simp only [stayP, sameB, h, h2, Bool.and_false])).trans hs, (pick_yes (by simp only [moveP, sameB, h, h2, Bool.not_false, Bool.and_self])).trans (by rw [hm])⟩

/-! ### The walks -/
theorem b2i_true (w : World) : Calls Try.prog 41 #[.bool true] w fun e w' => e = .returned (.int .i64 1) ∧ w' = w := by
  go_enter Try.func41, Try.ntmps41
  go_wp2
  go_ret
  exact ⟨rfl, rfl⟩
theorem b2i_false (w : World) : Calls Try.prog 41 #[.bool false] w fun e w' => e = .returned (.int .i64 0) ∧ w' = w := by
  go_enter Try.func41, Try.ntmps41
  go_wp2
  go_ret
  exact ⟨rfl, rfl⟩

set_option maxHeartbeats 1600000 in
theorem split_any (gB gS gM n : Nat) (aT : Option Addr) (cT : Nat) (A O T : Nat → Int) (w0 w : World) (hm : n ≤ 1048576)
    (hT : Sl w0 aT n cT (fun i => .int .u32 (T i))) (hb0 : Below w0.heap.size w0 w) (h0S : w0.heap.size ≤ gS) (hBS : gB ≤ gS) (hSM : gS < gM)
    (hR : SplitR w gB gS gM n 0 A O T w) :
    Calls Try.prog 29 #[.slice (some ⟨gB, 0, none⟩) n n, .slice aT n cT, .slice (some ⟨gS, 0, none⟩) n n, .slice (some ⟨gM, 0, none⟩) n n] w fun e w' =>
      e = .returned (.tuple #[.int .i64 (pick (stayP A T) n).length, .int .i64 (pick (moveP A T) n).length]) ∧ SplitR w gB gS gM n n A O T w' := by
  have hle : (n : Int) ≤ (cT : Int) := by have := hT.hle; omega
  have x1 : bits BinOp.and IntKind.i64 1 1 = 1 := by decide
  have x2 : bits BinOp.and IntKind.i64 1 0 = 0 := by decide
  have x3 : bits BinOp.and IntKind.i64 0 1 = 0 := by decide
  have x4 : bits BinOp.and IntKind.i64 0 0 = 0 := by decide
  have x5 : bits BinOp.andNot IntKind.i64 1 1 = 0 := by decide
  have x6 : bits BinOp.andNot IntKind.i64 1 0 = 1 := by decide
  have x7 : bits BinOp.andNot IntKind.i64 0 1 = 0 := by decide
  have x8 : bits BinOp.andNot IntKind.i64 0 0 = 0 := by decide
  go_enter Try.func29, Try.ntmps29
  go_wp2
  go_quiet (fail)
  go_wp2
  go_loopw [8, 9, 29] (fun ns nm i wr => ∃ k s m : Nat, k ≤ n ∧ i = .int .i64 k ∧ ns = .int .i64 s ∧ nm = .int .i64 m ∧ Hid ((pick (stayP A T) k).length = s ∧ (pick (moveP A T) k).length = m ∧ SplitR w gB gS gM n k A O T wr)) (fun _ _ i _ => n - (intOf i).toNat)
  case atStart => exact ⟨0, 0, 0, Nat.zero_le _, rfl, rfl, rfl, rfl, rfl, hR.drewN _⟩
  case round =>
    obtain ⟨k, s, m, hk, rfl, rfl, rfl, HR⟩ := hrel
    have hsk : s ≤ k := by obtain ⟨h1, _, _⟩ := HR.out; have := pick_le (stayP A T) k; omega
    have hmk : m ≤ k := by obtain ⟨_, h1, _⟩ := HR.out; have := pick_le (moveP A T) k; omega
    by_cases hlt : k < n
    · obtain ⟨bT, oT, haT, hlT, hcT⟩ := hT.at (by omega)
      subst haT
      have hz1 : bT < gS := by omega
      have hz4 : gM < wr.heap.size := HR.out.2.2.lt
      have e0 : wr.cell? ⟨bT, oT + k, none⟩ = some (.int .u32 (T k)) := (HR.out.2.2.bel.cell (p := ⟨bT, oT + k, none⟩) hz1).trans ((hb0.cell (p := ⟨bT, oT + k, none⟩) hlT).trans (hcT k hlt))
      obtain ⟨b0, b1⟩ := HR.out.2.2.blk k (Nat.le_refl _) hlt
      obtain ⟨uS, fS, s0, s1⟩ : ∃ u : Value × Value, (∀ i, wr.frozen? ⟨gS, i, none⟩ = false) ∧ wr.cell? ⟨gS, s * 2, none⟩ = some u.1 ∧ wr.cell? ⟨gS, s * 2 + 1, none⟩ = some u.2 := by
        obtain ⟨f, hf, _⟩ := HR.out.2.2.sr
        exact ⟨(_, _), hf.frozen, hf.cell (by omega), hf.cell (by omega)⟩
      obtain ⟨uM, fM, m0, m1⟩ : ∃ u : Value × Value, (∀ i, wr.frozen? ⟨gM, i, none⟩ = false) ∧ wr.cell? ⟨gM, m * 2, none⟩ = some u.1 ∧ wr.cell? ⟨gM, m * 2 + 1, none⟩ = some u.2 := by
        obtain ⟨f, hf, _⟩ := HR.out.2.2.mr
        exact ⟨(_, _), hf.frozen, hf.cell (by omega), hf.cell (by omega)⟩
      clear hcT
      have q1 := fun o => acell (o := o) e0
      have q2 := fun o o' => acell (o := o') (q1 o)
      have q3 := fun o => acell (o := o) s0
      have q4 := fun o o' => acell (o := o') (q3 o)
      have q5 := fun o => acell (o := o) s1
      have q6 := fun o o' => acell (o := o') (q5 o)
      have q7 := fun o => acell (o := o) m0
      have q8 := fun o o' => acell (o := o') (q7 o)
      have q9 := fun o => acell (o := o) m1
      have qa := fun o o' => acell (o := o') (q9 o)
      have r1 := fun o i => afroz (o := o) (show gS < wr.heap.size by omega) (fS i)
      have r2 := fun o o' i => afroz (o := o') (show gS < (wr.alloc o).heap.size by simp; omega) (r1 o i)
      have r3 := fun o i => afroz (o := o) (show gM < wr.heap.size by omega) (fM i)
      have r4 := fun o o' i => afroz (o := o') (show gM < (wr.alloc o).heap.size by simp; omega) (r3 o i)
      have hend := fun q o1 o2 => ((HR.out.2.2.step hBS hSM HR.out.1 HR.out.2.1 o1 o2).drewN q)
      go_wp2
      go_region
      cases hke : (T k != 2147483647)
      · cases hsm : (bits BinOp.xor IntKind.u32 (T k) (A k % 4294967296) / 2048 == 0)
        · go_wp2_with (go_at_call 41; refine (b2i_false _).mono ?_; rintro e w' ⟨rfl, rfl⟩)
          go_quiet ((go_at_call 41; refine (b2i_false _).mono ?_; rintro e w' ⟨rfl, rfl⟩; exact ⟨rfl, _, rfl⟩))
          go_wp2
          go_roundw
          case rel =>
            have L := lens_elim hke HR.out.1 HR.out.2.1
            exact ⟨k + 1, s, m, by omega, by go_num, rfl, rfl, L.1, L.2, hend _ _ _⟩
          case measure => simp [intOf]; omega
        · go_wp2_with (go_at_call 41; refine (b2i_false _).mono ?_; rintro e w' ⟨rfl, rfl⟩)
          go_quiet ((go_at_call 41; refine (b2i_true _).mono ?_; rintro e w' ⟨rfl, rfl⟩; exact ⟨rfl, _, rfl⟩))
          go_wp2
          go_roundw
          case rel =>
            have L := lens_elim hke HR.out.1 HR.out.2.1
            exact ⟨k + 1, s, m, by omega, by go_num, rfl, rfl, L.1, L.2, hend _ _ _⟩
          case measure => simp [intOf]; omega
      · cases hsm : (bits BinOp.xor IntKind.u32 (T k) (A k % 4294967296) / 2048 == 0)
        · go_wp2_with (go_at_call 41; refine (b2i_true _).mono ?_; rintro e w' ⟨rfl, rfl⟩)
          go_quiet ((go_at_call 41; refine (b2i_false _).mono ?_; rintro e w' ⟨rfl, rfl⟩; exact ⟨rfl, _, rfl⟩))
          go_wp2
          go_roundw
          case rel =>
            have L := lens_move hke hsm HR.out.1 HR.out.2.1
            exact ⟨k + 1, s, m + 1, by omega, by go_num, rfl, by go_num, L.1, L.2, hend _ _ _⟩
          case measure => simp [intOf]; omega
        · go_wp2_with (go_at_call 41; refine (b2i_true _).mono ?_; rintro e w' ⟨rfl, rfl⟩)
          go_quiet ((go_at_call 41; refine (b2i_true _).mono ?_; rintro e w' ⟨rfl, rfl⟩; exact ⟨rfl, _, rfl⟩))
          go_wp2
          go_roundw
          case rel =>
            have L := lens_stay hke hsm HR.out.1 HR.out.2.1
            exact ⟨k + 1, s + 1, m, by omega, by go_num, by go_num, rfl, L.1, L.2, hend _ _ _⟩
          case measure => simp [intOf]; omega
    · obtain rfl : k = n := by omega
      go_wp2
      go_ret2
      obtain ⟨h1, h2, h3⟩ := HR.out
      rw [h1, h2]
      exact ⟨rfl, h3⟩

set_option maxHeartbeats 400000 in
theorem ZZsplit_any (gB gS gM n : Nat) (aT : Option Addr) (cT : Nat) (A O T : Nat → Int) (w0 w : World) (hm : n ≤ 1048576)
    (hT : Sl w0 aT n cT (fun i => .int .u32 (T i))) (hb0 : Below w0.heap.size w0 w) (h0S : w0.heap.size ≤ gS) (hBS : gB ≤ gS) (hSM : gS < gM)
    (hR : SplitR w gB gS gM n 0 A O T w) :
    Calls Try.prog 17 #[.slice (some ⟨gB, 0, none⟩) n n, .slice aT n cT, .slice (some ⟨gS, 0, none⟩) n n, .slice (some ⟨gM, 0, none⟩) n n] w fun e w' =>
      e = .returned (.tuple #[.int .i64 (pick (stayP A T) n).length, .int .i64 (pick (moveP A T) n).length]) ∧ SplitR w gB gS gM n n A O T w' := by
  go_enter Try.func17, Try.ntmps17
  go_wp2_with fail
  refine (split_any gB gS gM n aT cT A O T w0 w hm hT hb0 h0S hBS hSM hR).mono ?_
  rintro e w' ⟨rfl, hq⟩
  go_wp2
  go_ret2
  exact ⟨rfl, hq⟩

end Go.Proofs.Qxb6003686a
