import Derived.Test.Qxb6003686aSplit
namespace Go.Proofs.Qxb6003686a
open Go.RowKit

theorem xor32 (x y : Nat) (hx : x < 4294967296) (hy : y < 4294967296) : bits BinOp.xor IntKind.u32 (x : Int) (y : Int) = ((x ^^^ y : Nat) : Int) := by
  unfold bits
  simp only []
  have e : IntKind.u32.bits = 32 := rfl
  have hxy : x ^^^ y < 2 ^ 32 := Nat.xor_lt_two_pow (by omega) (by omega)
  simp [e, Nat.mod_eq_of_lt hx, Nat.mod_eq_of_lt hy, IntKind.wrap_u32]
  omega
theorem xor_zero {x y : Nat} (h : x ^^^ y = 0) : x = y := by
  have := congrArg (· ^^^ y) h
  simpa [Nat.xor_assoc] using this
theorem same_eq (t a : Int) (h0 : 0 ≤ t) (h1 : t < 4294967296) : sameB t a = (t / 2048 == a % 4294967296 / 2048) := by
  obtain ⟨x, rfl⟩ := Int.eq_ofNat_of_zero_le h0
  obtain ⟨y, hy⟩ := Int.eq_ofNat_of_zero_le (show 0 ≤ a % 4294967296 by omega)
  unfold sameB
  rw [hy, xor32 x y (by omega) (by omega)]
  have e : (x ^^^ y) / 2048 = (x / 2048) ^^^ (y / 2048) := by
    have := Nat.shiftRight_xor_distrib (a := x) (b := y) (i := 11)
    simpa [Nat.shiftRight_eq_div_pow] using this
  rw [Bool.eq_iff_iff]
  simp only [beq_iff_eq]
  constructor
  · intro h
    have h' : (x ^^^ y) / 2048 = 0 := by omega
    rw [e] at h'
    have := xor_zero h'
    omega
  · intro h
    have h' : x / 2048 = y / 2048 := by omega
    have : (x ^^^ y) / 2048 = 0 := by rw [e, h', Nat.xor_self]
    omega

/-- The building loop, behind k rounds: four rows of the call's own. -/
structure BuildR (A O T : Nat → Int) (n k s m : Nat) (wc wr : World) : Prop where
  bel : Below wc.heap.size wc wr
  sz : wc.heap.size + 4 ≤ wr.heap.size
  hs : (pick (stayP A T) k).length = s
  hm : (pick (moveP A T) k).length = m
  r1 : wr.ownsRow wc.heap.size 21 1 (.slice (some ⟨wc.heap.size, 0, none⟩) s n) s ((pick (stayP A T) k).map fun i => .int .i32 (wrap32 (T i)))
  r2 : wr.ownsRow wc.heap.size 21 1 (.slice (some ⟨wc.heap.size + 1, 0, none⟩) s n) s ((pick (stayP A T) k).map fun i => .int .i32 (O i))
  r3 : wr.ownsRow wc.heap.size 21 1 (.slice (some ⟨wc.heap.size + 1 + 1, 0, none⟩) m n) m ((pick (moveP A T) k).map fun i => .int .i32 (wrap32 (T i)))
  r4 : wr.ownsRow wc.heap.size 21 1 (.slice (some ⟨wc.heap.size + 1 + 1 + 1, 0, none⟩) m n) m ((pick (moveP A T) k).map fun i => .int .i32 (O i))

theorem owns_start (w : World) (B : Nat) (hB : B ≤ w.heap.size) (n : Nat) (hn : n ≤ maxLen) : (w.alloc (.cells (madeCells #[.int .i32 0] n) 21)).ownsRow B 21 1 (.slice (some ⟨w.heap.size, 0, none⟩) 0 n) 0 [] :=
  World.ownsRow_made w _ n hB hn (by simp [size_madeCells])

theorem BuildR.start (A O T : Nat → Int) (n : Nat) (wc : World) (hn : n ≤ maxLen) : BuildR A O T n 0 0 0 wc ((((wc.alloc (.cells (madeCells #[.int .i32 0] n) 21)).alloc (.cells (madeCells #[.int .i32 0] n) 21)).alloc (.cells (madeCells #[.int .i32 0] n) 21)).alloc (.cells (madeCells #[.int .i32 0] n) 21)) := by
  refine ⟨?_, by simp, rfl, rfl, ?_, ?_, ?_, ?_⟩
  · exact ((((Below.refl _ _).alloc (Nat.le_refl _) _).alloc (by simp) _).alloc (by simp; omega) _).alloc (by simp; omega) _
  · exact (((owns_start wc wc.heap.size (Nat.le_refl _) n hn).alloc _).alloc _).alloc _
  · have := owns_start (wc.alloc (.cells (madeCells #[.int .i32 0] n) 21)) wc.heap.size (by simp) n hn
    simp only [World.size_alloc] at this
    exact (this.alloc _).alloc _
  · have := owns_start ((wc.alloc (.cells (madeCells #[.int .i32 0] n) 21)).alloc (.cells (madeCells #[.int .i32 0] n) 21)) wc.heap.size (by simp; omega) n hn
    simp only [World.size_alloc] at this
    exact this.alloc _
  · have := owns_start (((wc.alloc (.cells (madeCells #[.int .i32 0] n) 21)).alloc (.cells (madeCells #[.int .i32 0] n) 21)).alloc (.cells (madeCells #[.int .i32 0] n) 21)) wc.heap.size (by simp; omega) n hn
    simp only [World.size_alloc] at this
    exact this

theorem belApp {wc wr w1 : World} {row : Nat} (h : Below wc.heap.size wc wr) (g : wr.grownBy w1 (some row)) (hr : wc.heap.size ≤ row) : Below wc.heap.size wc w1 :=
  h.grown g h.size (fun k hk => by cases hk; exact hr)

theorem keptOther {w w1 : World} {B e n s : Nat} {row g : Nat} {xs : List Value} (h : w.ownsRow B e 1 (.slice (some ⟨g, 0, none⟩) s n) s xs) (gr : w.grownBy w1 (some row)) (hne : g ≠ row) : w1.ownsRow B e 1 (.slice (some ⟨g, 0, none⟩) s n) s xs :=
  h.kept gr (.inr (by simp [Value.ownBlock]; omega))

theorem stay_of {A T : Nat → Int} {k : Nat} (h0 : 0 ≤ T k) (h1 : T k < 4294967296) (h : (T k == 2147483647) = false) (h2 : (T k / 2048 == A k % 4294967296 / 2048) = true) : stayP A T k = true ∧ moveP A T k = false := by
  rw [← same_eq (T k) (A k) h0 h1] at h2
  simp [stayP, moveP, bne, h, h2]
theorem move_of {A T : Nat → Int} {k : Nat} (h0 : 0 ≤ T k) (h1 : T k < 4294967296) (h : (T k == 2147483647) = false) (h2 : (T k / 2048 == A k % 4294967296 / 2048) = false) : stayP A T k = false ∧ moveP A T k = true := by
  rw [← same_eq (T k) (A k) h0 h1] at h2
  simp [stayP, moveP, bne, h, h2]
theorem elim_of {A T : Nat → Int} {k : Nat} (h : (T k == 2147483647) = true) : stayP A T k = false ∧ moveP A T k = false := by
  simp [stayP, moveP, bne, h]

theorem pick_same {p : Nat → Bool} {k : Nat} (h : p k = false) : pick p (k + 1) = pick p k := by rw [pick_succ]; simp [h]
theorem pick_more {p : Nat → Bool} {k : Nat} (h : p k = true) : pick p (k + 1) = pick p k ++ [k] := by rw [pick_succ]; simp [h]

theorem BuildR.elim {A O T : Nat → Int} {n k s m : Nat} {wc wr : World} (h : BuildR A O T n k s m wc wr) (hp : stayP A T k = false ∧ moveP A T k = false) : BuildR A O T n (k + 1) s m wc wr := by
  have e1 := pick_same hp.1
  have e2 := pick_same hp.2
  exact ⟨h.bel, h.sz, by rw [e1]; exact h.hs, by rw [e2]; exact h.hm, by rw [e1]; exact h.r1, by rw [e1]; exact h.r2, by rw [e2]; exact h.r3, by rw [e2]; exact h.r4⟩

theorem BuildR.stay {A O T : Nat → Int} {n k s m : Nat} {wc wr wx w1 wy w2 : World} (h : BuildR A O T n k s m wc wr) (hp : stayP A T k = true ∧ moveP A T k = false)
    (hx : wr.grownBy wx none) (own1 : w1.ownsRow wc.heap.size 21 1 (.slice (some ⟨wc.heap.size, 0, none⟩) (s + 1) n) (s + 1) (((pick (stayP A T) k).map fun i => .int .i32 (wrap32 (T i))) ++ [.int .i32 (wrap32 (T k))])) (g1 : wx.grownBy w1 (some wc.heap.size))
    (hy : w1.grownBy wy none) (own2 : w2.ownsRow wc.heap.size 21 1 (.slice (some ⟨wc.heap.size + 1, 0, none⟩) (s + 1) n) (s + 1) (((pick (stayP A T) k).map fun i => .int .i32 (O i)) ++ [.int .i32 (O k)])) (g2 : wy.grownBy w2 (some (wc.heap.size + 1))) :
    BuildR A O T n (k + 1) (s + 1) m wc w2 := by
  have e1 := pick_more hp.1
  have e2 := pick_same hp.2
  have nn : ∀ v : Value, v.ownBlock = none ∨ v.ownBlock ≠ none := fun v => by cases v.ownBlock <;> simp
  have bx := h.bel.grown hx h.bel.size (fun k hk => by cases hk)
  have b1 := belApp bx g1 (Nat.le_refl _)
  have by' := b1.grown hy b1.size (fun k hk => by cases hk)
  have b2 := belApp by' g2 (by omega)
  refine ⟨b2, ?_, ?_, ?_, ?_, ?_, ?_, ?_⟩
  · have := h.sz; have := hx.size; have := g1.size; have := hy.size; have := g2.size; omega
  · rw [e1]; simp [h.hs]
  · rw [e2]; exact h.hm
  · rw [e1, List.map_append]; exact keptOther (own1.kept hy (nn _)) g2 (by omega)
  · rw [e1, List.map_append]; exact own2
  · rw [e2]; exact keptOther ((keptOther (h.r3.kept hx (nn _)) g1 (by omega)).kept hy (nn _)) g2 (by omega)
  · rw [e2]; exact keptOther ((keptOther (h.r4.kept hx (nn _)) g1 (by omega)).kept hy (nn _)) g2 (by omega)

theorem BuildR.move {A O T : Nat → Int} {n k s m : Nat} {wc wr wx w1 wy w2 : World} (h : BuildR A O T n k s m wc wr) (hp : stayP A T k = false ∧ moveP A T k = true)
    (hx : wr.grownBy wx none) (own1 : w1.ownsRow wc.heap.size 21 1 (.slice (some ⟨wc.heap.size + 1 + 1, 0, none⟩) (m + 1) n) (m + 1) (((pick (moveP A T) k).map fun i => .int .i32 (wrap32 (T i))) ++ [.int .i32 (wrap32 (T k))])) (g1 : wx.grownBy w1 (some (wc.heap.size + 1 + 1)))
    (hy : w1.grownBy wy none) (own2 : w2.ownsRow wc.heap.size 21 1 (.slice (some ⟨wc.heap.size + 1 + 1 + 1, 0, none⟩) (m + 1) n) (m + 1) (((pick (moveP A T) k).map fun i => .int .i32 (O i)) ++ [.int .i32 (O k)])) (g2 : wy.grownBy w2 (some (wc.heap.size + 1 + 1 + 1))) :
    BuildR A O T n (k + 1) s (m + 1) wc w2 := by
  have e1 := pick_same hp.1
  have e2 := pick_more hp.2
  have nn : ∀ v : Value, v.ownBlock = none ∨ v.ownBlock ≠ none := fun v => by cases v.ownBlock <;> simp
  have bx := h.bel.grown hx h.bel.size (fun k hk => by cases hk)
  have b1 := belApp bx g1 (by omega)
  have by' := b1.grown hy b1.size (fun k hk => by cases hk)
  have b2 := belApp by' g2 (by omega)
  refine ⟨b2, ?_, ?_, ?_, ?_, ?_, ?_, ?_⟩
  · have := h.sz; have := hx.size; have := g1.size; have := hy.size; have := g2.size; omega
  · rw [e1]; exact h.hs
  · rw [e2]; simp [h.hm]
  · rw [e1]; exact keptOther ((keptOther (h.r1.kept hx (nn _)) g1 (by omega)).kept hy (nn _)) g2 (by omega)
  · rw [e1]; exact keptOther ((keptOther (h.r2.kept hx (nn _)) g1 (by omega)).kept hy (nn _)) g2 (by omega)
  · rw [e2, List.map_append]; exact keptOther (own1.kept hy (nn _)) g2 (by omega)
  · rw [e2, List.map_append]; exact own2

theorem ownNone (v : Value) : v.ownBlock = none ∨ v.ownBlock ≠ none := by cases v.ownBlock <;> simp
theorem grownDrew (w : World) (o : Obj) (q : Nat) : w.grownBy ((w.alloc o).drewN q) none :=
  have h := World.grownBy_alloc w o none
  ⟨h.os, h.tape, h.output, h.size, h.block⟩

/-! ### What stands behind the building loop -/
def selT (T : Nat → Int) (p : Nat → Bool) (n j : Nat) : Int := wrap32 (T ((pick p n).getD j 0))
def selO (O : Nat → Int) (p : Nat → Bool) (n j : Nat) : Int := O ((pick p n).getD j 0)

theorem pick_at {p : Nat → Bool} {n j : Nat} (h : j < (pick p n).length) : (pick p n)[j]? = some ((pick p n).getD j 0) := by
  simp [List.getD, h]

theorem Picked.cells {w : World} {g n : Nat} {O T : Nat → Int} {p : Nat → Bool} {f : Nat → Value} (h : w.rowIs g 60 (2 * n) f) (hp : Picked O T p n f) (j : Nat) (hj : j < (pick p n).length) :
    w.cell? ⟨g, j * 2, none⟩ = some (.int .i32 (selT T p n j)) ∧ w.cell? ⟨g, j * 2 + 1, none⟩ = some (.int .i32 (selO O p n j)) := by
  have hl := pick_le p n
  have := hp j _ (pick_at hj)
  rw [h.cell (by omega), h.cell (by omega), this.1, this.2]
  exact ⟨rfl, rfl⟩

theorem wcell_even (A O : Nat → Int) (j : Nat) : wcell A O (j * 2) = .int .i32 (A j) := by
  unfold wcell
  rw [if_pos (by omega)]
  congr 2; omega
theorem wcell_odd (A O : Nat → Int) (j : Nat) : wcell A O (j * 2 + 1) = .int .i32 (O j) := by
  unfold wcell
  rw [if_neg (by omega)]
  congr 2; omega

theorem picked0 (O T : Nat → Int) (p : Nat → Bool) (f : Nat → Value) : Picked O T p 0 f := by
  intro j i h
  simp [pick] at h

theorem blk_of_row {w : World} {g n : Nat} {A O : Nat → Int} (h : w.rowIs g 60 (2 * n) (wcell A O)) (j : Nat) (hj : j < n) :
    w.cell? ⟨g, j * 2, none⟩ = some (.int .i32 (A j)) ∧ w.cell? ⟨g, j * 2 + 1, none⟩ = some (.int .i32 (O j)) := by
  rw [h.cell (by omega), h.cell (by omega), wcell_even, wcell_odd]
  exact ⟨rfl, rfl⟩

theorem SplitR.start1 {A O T : Nat → Int} {n g : Nat} {w : World} (h : w.rowIs g 60 (2 * n) (wcell A O)) (zs : Array Value) :
    SplitR ((w.alloc (.cells (madeCells zs (2 * n)) 60)).alloc (.cells (madeCells zs (2 * n)) 60)) g w.heap.size (w.heap.size + 1) n 0 A O T ((w.alloc (.cells (madeCells zs (2 * n)) 60)).alloc (.cells (madeCells zs (2 * n)) 60)) := by
  refine ⟨Below.refl _ _, by simp, fun j _ hj => ?_, ⟨_, (rowIs_madeCells w zs (2 * n) 60).alloc _, picked0 _ _ _ _⟩, ?_⟩
  · exact blk_of_row ((h.alloc _).alloc _) j hj
  · have := rowIs_madeCells (w.alloc (.cells (madeCells zs (2 * n)) 60)) zs (2 * n) 60
    simp only [World.size_alloc] at this
    exact ⟨_, this, picked0 _ _ _ _⟩

theorem SplitR.start2 {A O T : Nat → Int} {n g : Nat} {w : World} (h : w.rowIs g 60 (2 * n) (wcell A O)) (zs : Array Value) :
    SplitR (w.alloc (.cells (madeCells zs (2 * n)) 60)) g g w.heap.size n 0 A O T (w.alloc (.cells (madeCells zs (2 * n)) 60)) := by
  refine ⟨Below.refl _ _, by simp, fun j _ hj => ?_, ⟨_, h.alloc _, picked0 _ _ _ _⟩, ⟨_, rowIs_madeCells w zs (2 * n) 60, picked0 _ _ _ _⟩⟩
  exact blk_of_row (h.alloc _) j hj

/-- The four built rows, as they are read. -/
structure Four (B : Nat) (A O T : Nat → Int) (n : Nat) (w : World) : Prop where
  f1 : ∀ j, j < (pick (stayP A T) n).length → w.cell? ⟨B, j, none⟩ = some (.int .i32 (selT T (stayP A T) n j))
  f2 : ∀ j, j < (pick (stayP A T) n).length → w.cell? ⟨B + 1, j, none⟩ = some (.int .i32 (selO O (stayP A T) n j))
  f3 : ∀ j, j < (pick (moveP A T) n).length → w.cell? ⟨B + 1 + 1, j, none⟩ = some (.int .i32 (selT T (moveP A T) n j))
  f4 : ∀ j, j < (pick (moveP A T) n).length → w.cell? ⟨B + 1 + 1 + 1, j, none⟩ = some (.int .i32 (selO O (moveP A T) n j))

theorem own_cell {w : World} {B g s n : Nat} {p : Nat → Bool} {k : Nat} {f : Nat → Value} (h : w.ownsRow B 21 1 (.slice (some ⟨g, 0, none⟩) s n) s ((pick p k).map f)) (hs : (pick p k).length = s) (j : Nat) (hj : j < (pick p k).length) :
    w.cell? ⟨g, j, none⟩ = some (f ((pick p k).getD j 0)) := by
  rw [h.cellAt j (by omega), List.getElem?_map, pick_at hj]
  rfl

theorem BuildR.four {A O T : Nat → Int} {n s m : Nat} {wc wr : World} (h : BuildR A O T n n s m wc wr) : Four wc.heap.size A O T n wr :=
  ⟨fun j hj => own_cell h.r1 h.hs j hj, fun j hj => own_cell h.r2 h.hs j hj, fun j hj => own_cell h.r3 h.hm j hj, fun j hj => own_cell h.r4 h.hm j hj⟩

theorem Four.below {B B' n : Nat} {A O T : Nat → Int} {w w' : World} (h : Four B A O T n w) (hb : Below B' w w') (hB : B + 4 ≤ B') : Four B A O T n w' :=
  ⟨fun j hj => (hb.cell (p := ⟨B, j, none⟩) (show B < B' by omega)).trans (h.f1 j hj), fun j hj => (hb.cell (p := ⟨B + 1, j, none⟩) (show B + 1 < B' by omega)).trans (h.f2 j hj),
   fun j hj => (hb.cell (p := ⟨B + 1 + 1, j, none⟩) (show B + 1 + 1 < B' by omega)).trans (h.f3 j hj), fun j hj => (hb.cell (p := ⟨B + 1 + 1 + 1, j, none⟩) (show B + 1 + 1 + 1 < B' by omega)).trans (h.f4 j hj)⟩

theorem bytes4_no (a0 a1 a2 : Option Addr) (l0 c0 l1 c1 l2 c2 : Nat) (w : World) (m0 : l0 ≤ 9223372036854775807) (m1 : l1 ≤ 9223372036854775807) (m2 : l2 ≤ 9223372036854775807) (h : 1048576 < l0 + l1 + l2) :
    Calls Try.prog 13 #[.slice a0 l0 c0, .slice a1 l1 c1, .slice a2 l2 c2] w fun e w' => e = .returned (.bool false) ∧ w' = w := by
  by_cases h0 : 1048576 < l0
  · go_enter Try.func13, Try.ntmps13
    go_wp2
    go_ret
    exact ⟨rfl, rfl⟩
  by_cases h1 : 1048576 < l1
  · go_enter Try.func13, Try.ntmps13
    go_wp2
    go_ret
    exact ⟨rfl, rfl⟩
  by_cases h01 : 1048576 < l0 + l1
  · go_enter Try.func13, Try.ntmps13
    go_wp2
    go_ret
    exact ⟨rfl, rfl⟩
  by_cases h2 : 1048576 < l2
  · go_enter Try.func13, Try.ntmps13
    go_wp2
    go_ret
    exact ⟨rfl, rfl⟩
  · go_enter Try.func13, Try.ntmps13
    go_wp2
    go_ret
    exact ⟨rfl, rfl⟩

theorem bytes4_yes (a0 a1 a2 : Option Addr) (l0 c0 l1 c1 l2 c2 : Nat) (w : World) (h : l0 + l1 + l2 ≤ 1048576) :
    Calls Try.prog 13 #[.slice a0 l0 c0, .slice a1 l1 c1, .slice a2 l2 c2] w fun e w' => e = .returned (.bool true) ∧ w' = w := by
  go_enter Try.func13, Try.ntmps13
  go_wp2
  go_ret
  exact ⟨rfl, rfl⟩

set_option maxRecDepth 100000 in
set_option maxHeartbeats 1000000 in
theorem main4 (a0 a1 a2 : Option Addr) (c0 c1 c2 n : Nat) (A O T : Nat → Int) (w : World) (hm : 12 * n ≤ 1048576) (hTr : ∀ i, i < n → 0 ≤ T i ∧ T i < 4294967296)
    (h0 : Sl w a0 n c0 (fun i => .int .i32 (A i))) (h1 : Sl w a1 n c1 (fun i => .int .i32 (O i))) (h2 : Sl w a2 n c2 (fun i => .int .u32 (T i))) :
    Calls Try.prog 4 #[.slice a0 n c0, .slice a1 n c1, .slice a2 n c2] w fun e w' => e = .returned (.bool true) ∧ Below w.heap.size w w' := by
  have hmk0 := run_make_cap (P := Try.prog) 35 21 #[.int .i32 0] (.int .i32 0) 1 4 n Try.underlying35 Try.info21 rfl .i64 .i64 n (by omega) (by omega) (by omega)
  have hmk2 := run_make_rows (P := Try.prog) 42 60 #[.int .i32 0, .int .i32 0] (.agg #[.int .i32 0, .int .i32 0]) 2 8 (2 * n) Try.underlying42 Try.info60 rfl .i64 .i64 n (by omega) (by omega) (by omega)
  go_enter Try.func4, Try.ntmps4
  go_wp2_with (go_at_call 13; refine (bytes4_yes _ _ _ _ _ _ _ _ _ _ (by omega)).mono ?_; rintro e w ⟨rfl, rfl⟩)
  refine (cloneI32 a0 n c0 _ _ (fun _ => rfl) h0 (by omega)).mono ?_
  rintro e wa ⟨a0', c0', rfl, bwa, h0a⟩
  have h1a := h1.below bwa (Nat.le_refl _)
  have h2a := h2.below bwa (Nat.le_refl _)
  clear h0 h1 h2
  go_wp2_with fail
  refine (cloneI32 a1 n c1 _ _ (fun _ => rfl) h1a (by omega)).mono ?_
  rintro e wb ⟨a1', c1', rfl, bwb, h1b⟩
  have h0b := h0a.below bwb (Nat.le_refl _)
  have h2b := h2a.below bwb (Nat.le_refl _)
  have bab := bwa.trans (bwb.mono bwa.size)
  clear h0a h1a h2a bwa bwb
  go_wp2_with fail
  refine (cloneU32 a2 n c2 _ _ (fun _ => rfl) h2b (by omega)).mono ?_
  rintro e wc ⟨a2', c2', rfl, bwc, h2c⟩
  have h0c := h0b.below bwc (Nat.le_refl _)
  have h1c := h1b.below bwc (Nat.le_refl _)
  have bac := bab.trans (bwc.mono bab.size)
  clear h0b h1b h2b bab bwc
  have hdc : decide ((1048576 : Int) < 4 * ↑n + 4 * ↑n + 4 * ↑n) = false := by simp; omega
  obtain ⟨i0, hi, hz0, hz1, hz2⟩ := info_parts Try.info21
  go_wp2_with fail
  go_loopw [8, 9, 10, 11, 12] (fun v1 v2 v3 v4 i wr => ∃ k s m : Nat, k ≤ n ∧ i = .int .i64 k ∧ v1 = .slice (some ⟨wc.heap.size, 0, none⟩) s n ∧ v2 = .slice (some ⟨wc.heap.size + 1, 0, none⟩) s n ∧ v3 = .slice (some ⟨wc.heap.size + 1 + 1, 0, none⟩) m n ∧ v4 = .slice (some ⟨wc.heap.size + 1 + 1 + 1, 0, none⟩) m n ∧ Hid (BuildR A O T n k s m wc wr)) (fun _ _ _ _ i _ => n - (intOf i).toNat)
  case atStart => exact ⟨0, 0, 0, Nat.zero_le _, rfl, rfl, rfl, rfl, rfl, BuildR.start A O T n wc (by unfold maxLen; omega)⟩
  case round =>
    obtain ⟨k, s, m, hk, rfl, rfl, rfl, rfl, rfl, HR⟩ := hrel
    have hsk : s ≤ k := by have := pick_le (stayP A T) k; have := HR.out.hs; omega
    have hmk : m ≤ k := by have := pick_le (moveP A T) k; have := HR.out.hm; omega
    by_cases hlt : k < n
    · obtain ⟨b0, o0, hb0, hl0, hx0⟩ := h0c.at (by omega)
      obtain ⟨b1, o1, hb1, hl1, hx1⟩ := h1c.at (by omega)
      obtain ⟨b2, o2, hb2, hl2, hx2⟩ := h2c.at (by omega)
      subst hb0 hb1 hb2
      have e0 := (HR.out.bel.cell (p := ⟨b0, o0 + k, none⟩) hl0).trans (hx0 k hlt)
      have e1 := (HR.out.bel.cell (p := ⟨b1, o1 + k, none⟩) hl1).trans (hx1 k hlt)
      have e2 := (HR.out.bel.cell (p := ⟨b2, o2 + k, none⟩) hl2).trans (hx2 k hlt)
      clear hx0 hx2
      cases hke : (T k == 2147483647)
      · cases hsm : (T k / 2048 == A k % 4294967296 / 2048)
        · go_wp2_with fail
          go_quiet (fail)
          go_wp2_with (at_builtin; refine wpList_append_fits _ rfl (.tmp 116) (.tmp 122) 35 rfl wc.heap.size 21 i0 1 Try.underlying35 hi hz1 (wc.heap.size + 1 + 1) m n _ rfl (HR.out.r3.alloc _) ⟨wr.heap.size, 0, none⟩ 1 1 [.int .i32 (wrap32 (T k))] rfl rfl (cell_one_new _ _ _) (by simp [Value.oneCell']) (by omega) ?_)
          intro w1 own1 grow1
          have bel1 := belApp (HR.out.bel.grown (grownDrew wr _ _) HR.out.bel.size (fun k hk => by cases hk)) grow1 (by omega)
          have e1' := (bel1.cell (p := ⟨b1, o1 + k, none⟩) hl1).trans (hx1 k hlt)
          have own2 := hide (keptOther (HR.out.r4.kept (grownDrew wr _ _) (ownNone _)) grow1 (by omega))
          have Own1 := hide own1
          have Grow1 := hide grow1
          clear own1 grow1
          go_wp2_with (at_builtin; refine wpList_append_fits _ rfl (.tmp 124) (.tmp 129) 35 rfl wc.heap.size 21 i0 1 Try.underlying35 hi hz1 (wc.heap.size + 1 + 1 + 1) m n _ rfl (own2.out.alloc _) ⟨w1.heap.size, 0, none⟩ 1 1 [.int .i32 (O k)] rfl rfl (cell_one_new _ _ _) (by simp [Value.oneCell']) (by omega) ?_)
          intro w2 own3 grow3
          have HE := hide (HR.out.move (move_of (hTr k hlt).1 (hTr k hlt).2 hke hsm) (grownDrew wr _ _) Own1.out Grow1.out (World.grownBy_alloc _ _ _) own3 grow3)
          clear own3 grow3 e1' bel1
          go_wp2_with fail
          go_roundw
          case rel => exact ⟨k + 1, s, m + 1, by omega, by go_num, rfl, rfl, rfl, rfl, HE.out⟩
          case measure => simp [intOf]; omega
        · go_wp2_with fail
          go_quiet (fail)
          go_wp2_with (at_builtin; refine wpList_append_fits _ rfl (.tmp 101) (.tmp 107) 35 rfl wc.heap.size 21 i0 1 Try.underlying35 hi hz1 (wc.heap.size) s n _ rfl (HR.out.r1.alloc _) ⟨wr.heap.size, 0, none⟩ 1 1 [.int .i32 (wrap32 (T k))] rfl rfl (cell_one_new _ _ _) (by simp [Value.oneCell']) (by omega) ?_)
          intro w1 own1 grow1
          have bel1 := belApp (HR.out.bel.grown (grownDrew wr _ _) HR.out.bel.size (fun k hk => by cases hk)) grow1 (by omega)
          have e1' := (bel1.cell (p := ⟨b1, o1 + k, none⟩) hl1).trans (hx1 k hlt)
          have own2 := hide (keptOther (HR.out.r2.kept (grownDrew wr _ _) (ownNone _)) grow1 (by omega))
          have Own1 := hide own1
          have Grow1 := hide grow1
          clear own1 grow1
          go_wp2_with (at_builtin; refine wpList_append_fits _ rfl (.tmp 109) (.tmp 114) 35 rfl wc.heap.size 21 i0 1 Try.underlying35 hi hz1 (wc.heap.size + 1) s n _ rfl (own2.out.alloc _) ⟨w1.heap.size, 0, none⟩ 1 1 [.int .i32 (O k)] rfl rfl (cell_one_new _ _ _) (by simp [Value.oneCell']) (by omega) ?_)
          intro w2 own3 grow3
          have HE := hide (HR.out.stay (stay_of (hTr k hlt).1 (hTr k hlt).2 hke hsm) (grownDrew wr _ _) Own1.out Grow1.out (World.grownBy_alloc _ _ _) own3 grow3)
          clear own3 grow3 e1' bel1
          go_wp2_with fail
          go_roundw
          case rel => exact ⟨k + 1, s + 1, m, by omega, by go_num, rfl, rfl, rfl, rfl, HE.out⟩
          case measure => simp [intOf]; omega
      · go_wp2_with fail
        go_roundw
        case rel => exact ⟨k + 1, s, m, by omega, by go_num, rfl, rfl, rfl, rfl, HR.out.elim (elim_of hke)⟩
        case measure => simp [intOf]; omega
    · obtain rfl : n = k := by omega
      have F4 := hide HR.out.four
      have hsz := HR.out.sz
      have belr := HR.out.bel
      have Hs := hide HR.out.hs
      have Hm := hide HR.out.hm
      clear HR
      go_wp2_with fail
      refine (walkers a0' a1' n c0' c1' A O _ (h0c.below belr (Nat.le_refl _)) (h1c.below belr (Nat.le_refl _)) (by omega)).mono ?_
      rintro e w2 ⟨rfl, bel2, row2⟩
      have z2 := row2.lt
      have Row2 := hide row2
      clear row2
      have b2 : Below wc.heap.size wc w2 := belr.trans (bel2.mono belr.size)
      have F5 := hide (F4.out.below bel2 (by omega))
      clear F4 bel2
      go_wp2_with fail
      refine (ZZsplit_any wr.heap.size w2.heap.size (w2.heap.size + 1) n a2' c2' A O T wc _ (by omega) h2c ((b2.alloc b2.size _).alloc (by have := b2.size; simp; omega) _) b2.size (by omega) (by omega) (SplitR.start1 Row2.out _)).mono ?_
      rintro e w4 ⟨he, R4⟩
      rw [Hs.out, Hm.out] at he
      subst he
      have z4 := R4.lt
      have F6 := hide ((((F5.out.below ((Below.refl w2.heap.size w2).alloc (Nat.le_refl _) _) (by omega)).below ((Below.refl w2.heap.size _).alloc (by simp) _) (by omega))).below R4.bel (by omega))
      have b4 : Below wc.heap.size wc w4 := ((b2.alloc b2.size _).alloc (by have := b2.size; simp; omega) _).trans (R4.bel.mono b2.size)
      obtain ⟨fS, rowS, pS⟩ := R4.sr
      obtain ⟨fM, rowM, pM⟩ := R4.mr
      have CS := hide (fun j (hj : j < s) => Picked.cells rowS pS j (by rw [Hs.out]; exact hj))
      have CM := hide (fun j (hj : j < m) => Picked.cells rowM pM j (by rw [Hm.out]; exact hj))
      clear R4 rowS rowM pS pM F5 Row2
      go_wp2_with fail
      refine (walkerFields w2.heap.size s n (selT T (stayP A T) n) (selO O (stayP A T) n) _ (by omega) CS.out (by omega)).mono ?_
      rintro e w5 ⟨rfl, b5, rA, rO⟩
      have z5 := rO.lt
      have F7 := hide (F6.out.below b5 (by omega))
      have CM5 := hide (fun j (hj : j < m) => And.intro ((b5.cell (p := ⟨w2.heap.size + 1, j * 2, none⟩) z4).trans (CM.out j hj).1) ((b5.cell (p := ⟨w2.heap.size + 1, j * 2 + 1, none⟩) z4).trans (CM.out j hj).2))
      have b05 := b4.trans (b5.mono b4.size)
      have RA := hide rA
      have RO := hide rO
      clear rA rO F6 CS CM b5
      go_wp2_with fail
      refine (walkerFields (w2.heap.size + 1) m n (selT T (moveP A T) n) (selO O (moveP A T) n) _ (by omega) CM5.out (by omega)).mono ?_
      rintro e w6 ⟨rfl, b6, rA, rO⟩
      have F8 := hide (F7.out.below b6 (by omega))
      have b06 := b05.trans (b6.mono b05.size)
      have G1 := hide (rowIs_below RA.out b6 (by omega))
      have G2 := hide (rowIs_below RO.out b6 (by omega))
      have G3 := hide rA
      have G4 := hide rO
      have z6 := rO.lt
      clear rA rO F7 CM5 b6 RA RO
      go_wp2_with fail
      go_loopw [22] (fun i wx => ∃ k q : Nat, k ≤ s ∧ i = .int .i64 k ∧ wx = w6.drewN q) (fun i _ => s - (intOf i).toNat)
      case atStart => exact ⟨0, 0, Nat.zero_le _, rfl, rfl⟩
      case round =>
        obtain ⟨k, q, hk, rfl, rfl⟩ := hrel
        by_cases hlt : k < s
        · have e1 := G1.out.cell hlt
          have e2 := G2.out.cell hlt
          have e3 := F8.out.f1 k (by rw [Hs.out]; exact hlt)
          have e4 := F8.out.f2 k (by rw [Hs.out]; exact hlt)
          go_wp2_with fail
          go_quiet (fail)
          go_wp2_with fail
          go_roundw
          case rel => exact ⟨k + 1, _, by omega, by go_num, rfl⟩
          case measure => simp [intOf]; omega
        go_wp2_with fail
        clear hk hlt
        go_loopw [23] (fun i wx => ∃ k q : Nat, k ≤ m ∧ i = .int .i64 k ∧ wx = w6.drewN q) (fun i _ => m - (intOf i).toNat)
        case atStart => exact ⟨0, _, Nat.zero_le _, rfl, rfl⟩
        case round =>
          obtain ⟨k, q, hk, rfl, rfl⟩ := hrel
          by_cases hlt : k < m
          · have e1 := G3.out.cell hlt
            have e2 := G4.out.cell hlt
            have e3 := F8.out.f3 k (by rw [Hm.out]; exact hlt)
            have e4 := F8.out.f4 k (by rw [Hm.out]; exact hlt)
            go_wp2_with fail
            go_quiet (fail)
            go_wp2_with fail
            go_roundw
            case rel => exact ⟨k + 1, _, by omega, by go_num, rfl⟩
            case measure => simp [intOf]; omega
          go_wp2_with fail
          clear hk hlt G1 G2 G3 G4
          refine (walkers a0' a1' n c0' c1' A O _ (h0c.below (bdrewN b06 _) (Nat.le_refl _)) (h1c.below (bdrewN b06 _) (Nat.le_refl _)) (by omega)).mono ?_
          rintro e w7 ⟨rfl, b7', row7'⟩
          have b7 : Below w6.heap.size w6 w7 := ⟨b7'.os, b7'.tape, b7'.output, b7'.size, b7'.block⟩
          have Row7 : Hid (w7.rowIs w6.heap.size 60 (2 * n) (wcell A O)) := row7'
          have z7 : w6.heap.size < w7.heap.size := row7'.lt
          have F9 := hide (F8.out.below b7 (by omega))
          have b07 := b06.trans (b7.mono b06.size)
          clear b7' row7' F8
          go_wp2_with fail
          refine (ZZsplit_any w6.heap.size w6.heap.size w7.heap.size n a2' c2' A O T wc _ (by omega) h2c (b07.alloc b07.size _) b06.size (Nat.le_refl _) z7 (SplitR.start2 Row7.out _)).mono ?_
          rintro e w8 ⟨he, R8⟩
          rw [Hs.out, Hm.out] at he
          subst he
          have z8 := R8.lt
          have F10 := hide ((F9.out.below ((Below.refl w7.heap.size w7).alloc (Nat.le_refl _) _) (by omega)).below R8.bel (by omega))
          have b08 : Below wc.heap.size wc w8 := (b07.alloc b07.size _).trans (R8.bel.mono b06.size)
          obtain ⟨fS, rowS, pS⟩ := R8.sr
          obtain ⟨fM, rowM, pM⟩ := R8.mr
          have CS := hide (fun j (hj : j < s) => Picked.cells rowS pS j (by rw [Hs.out]; exact hj))
          have CM := hide (fun j (hj : j < m) => Picked.cells rowM pM j (by rw [Hm.out]; exact hj))
          clear R8 rowS rowM pS pM F9 Row7
          go_wp2_with fail
          refine (walkerFields w6.heap.size s n (selT T (stayP A T) n) (selO O (stayP A T) n) _ (by omega) CS.out (by omega)).mono ?_
          rintro e w9 ⟨rfl, b9, rA, rO⟩
          have z9 := rO.lt
          have F11 := hide (F10.out.below b9 (by omega))
          have CM9 := hide (fun j (hj : j < m) => And.intro ((b9.cell (p := ⟨w7.heap.size, j * 2, none⟩) z8).trans (CM.out j hj).1) ((b9.cell (p := ⟨w7.heap.size, j * 2 + 1, none⟩) z8).trans (CM.out j hj).2))
          have b09 := b08.trans (b9.mono b08.size)
          have RA := hide rA
          have RO := hide rO
          clear rA rO F10 CS CM b9
          go_wp2_with fail
          refine (walkerFields w7.heap.size m n (selT T (moveP A T) n) (selO O (moveP A T) n) _ (by omega) CM9.out (by omega)).mono ?_
          rintro e wd ⟨rfl, bd, rA, rO⟩
          have F12 := hide (F11.out.below bd (by omega))
          have b0d := b09.trans (bd.mono b09.size)
          have G1 := hide (rowIs_below RA.out bd (by omega))
          have G2 := hide (rowIs_below RO.out bd (by omega))
          have G3 := hide rA
          have G4 := hide rO
          clear rA rO F11 CM9 bd RA RO
          go_wp2_with fail
          go_loopw [32] (fun i wx => ∃ k q : Nat, k ≤ s ∧ i = .int .i64 k ∧ wx = wd.drewN q) (fun i _ => s - (intOf i).toNat)
          case atStart => exact ⟨0, 0, Nat.zero_le _, rfl, rfl⟩
          case round =>
            obtain ⟨k, q, hk, rfl, rfl⟩ := hrel
            by_cases hlt : k < s
            · have e1 := G1.out.cell hlt
              have e2 := G2.out.cell hlt
              have e3 := F12.out.f1 k (by rw [Hs.out]; exact hlt)
              have e4 := F12.out.f2 k (by rw [Hs.out]; exact hlt)
              go_wp2_with fail
              go_quiet (fail)
              go_wp2_with fail
              go_roundw
              case rel => exact ⟨k + 1, _, by omega, by go_num, rfl⟩
              case measure => simp [intOf]; omega
            go_wp2_with fail
            clear hk hlt
            go_loopw [33] (fun i wx => ∃ k q : Nat, k ≤ m ∧ i = .int .i64 k ∧ wx = wd.drewN q) (fun i _ => m - (intOf i).toNat)
            case atStart => exact ⟨0, _, Nat.zero_le _, rfl, rfl⟩
            case round =>
              obtain ⟨k, q, hk, rfl, rfl⟩ := hrel
              by_cases hlt : k < m
              · have e1 := G3.out.cell hlt
                have e2 := G4.out.cell hlt
                have e3 := F12.out.f3 k (by rw [Hm.out]; exact hlt)
                have e4 := F12.out.f4 k (by rw [Hm.out]; exact hlt)
                go_wp2_with fail
                go_quiet (fail)
                go_wp2_with fail
                go_roundw
                case rel => exact ⟨k + 1, _, by omega, by go_num, rfl⟩
                case measure => simp [intOf]; omega
              go_wp2_with fail
              go_ret
              exact ⟨rfl, bdrewN (bac.trans (b0d.mono bac.size)) _⟩
end Go.Proofs.Qxb6003686a
