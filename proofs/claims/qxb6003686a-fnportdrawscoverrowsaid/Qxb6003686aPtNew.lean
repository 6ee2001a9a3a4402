/-
  THE PORT TABLE: how it lies in memory, and the contracts of resized, newPortTable, reset.
-/
import Derived.Test.Qxb6003686aClone
import Derived.Deep.AppendLies
namespace Go.Proofs.Qxb6003686a
open Go.RowKit

theorem Try.info71 : (Try.prog.info? 71).map (fun i => (i.zero, i.size, i.bytes)) = some (some (.agg #[.int .u32 0, .int .i32 0, .int .i32 0]), 3, 12) := by kernel_rfl
theorem Try.info83 : (Try.prog.info? 83).map (fun i => (i.zero, i.size, i.bytes)) = some (some (.int .u64 0), 1, 8) := by kernel_rfl

def tcell (sa : Option Addr) (n : Nat) (pv cv : Value) (i : Nat) : Value := if i = 0 then .slice sa n n else if i = 1 then pv else if i = 2 then cv else .slice none 0 0
def scell (F : Nat → Nat × Nat × Nat) (c : Nat) : Value := if c % 3 = 0 then .int .u32 (F (c / 3)).1 else if c % 3 = 1 then .int .i32 (F (c / 3)).2.1 else .int .i32 (F (c / 3)).2.2
def shp0 : Nat → Nat × Nat × Nat := fun _ => (0, 0, 0)

def Shp (B : Nat) (w : World) (sa : Option Addr) (n : Nat) (F : Nat → Nat × Nat × Nat) : Prop :=
  (n = 0 ∧ sa = none) ∨ ∃ sg, sa = some ⟨sg, 0, none⟩ ∧ B ≤ sg ∧ w.rowIs sg 71 (n * 3) (scell F)

def pvals (L : List Nat) : List Value := L.map fun (x : Nat) => Value.int .u32 (x : Int)

structure PB (B : Nat) (w : World) (p : Nat) (sa : Option Addr) (n : Nat) (pa : Option Addr) (pcap : Nat) (cv : Value) (F : Nat → Nat × Nat × Nat) (L : List Nat) : Prop where
  hp : B ≤ p
  tb : w.rowIs p 69 4 (tcell sa n (.slice pa L.length pcap) cv)
  sh : Shp B w sa n F
  po : w.ownsRow B 40 1 (.slice pa L.length pcap) L.length (pvals L)

theorem madeShp {m : Nat} : ∀ i, i < m → #[Value.int .u32 0, .int .i32 0, .int .i32 0][i % #[Value.int .u32 0, .int .i32 0, .int .i32 0].size]! = scell shp0 i := by
  intro i _
  unfold scell shp0
  have : i % 3 = 0 ∨ i % 3 = 1 ∨ i % 3 = 2 := by omega
  rcases this with h | h | h <;> simp [h]

theorem rowIs_cells4 {w : World} {p : Nat} {e : TypeId} {v0 v1 v2 v3 : Value} (h : w.heap[p]? = some (.cells #[v0, v1, v2, v3] e (0, 0))) :
    w.rowIs p e 4 (fun i => if i = 0 then v0 else if i = 1 then v1 else if i = 2 then v2 else v3) := by
  refine ⟨_, h, rfl, fun i hi => ?_⟩
  match i, hi with
  | 0, _ => rfl
  | 1, _ => rfl
  | 2, _ => rfl
  | 3, _ => rfl

theorem resizedShape0 (w : World) : Calls Try.prog 45 #[.slice none 0 0, .int .i64 0] w fun e w' => e = .returned (.slice none 0 0) ∧ w' = w := by
  have hcl := fun w : World => show (Builtin.clear_ #[65] 0 #[.slice none 0 0]).run Try.prog w = .ok (.tuple #[]) w from by kernel_rfl
  go_enter Try.func45, Try.ntmps45
  go_wp2
  go_ret
  exact ⟨rfl, rfl⟩

theorem resizedShape (n : Nat) (hn : 0 < n) (hm : n ≤ 1048576) (w : World) : Calls Try.prog 45 #[.slice none 0 0, .int .i64 n] w fun e w' => e = .returned (.slice (some ⟨w.heap.size, 0, none⟩) n n) ∧ Below w.heap.size w w' ∧ w'.rowIs w.heap.size 71 (n * 3) (scell shp0) := by
  have hmk := run_make_rows (P := Try.prog) 65 71 #[.int .u32 0, .int .i32 0, .int .i32 0] (.agg #[.int .u32 0, .int .i32 0, .int .i32 0]) 3 12 (n * 3) Try.underlying65 Try.info71 rfl .i64 .i64 n (by omega) (by omega) (by omega)
  go_enter Try.func45, Try.ntmps45
  go_wp2
  go_ret
  exact ⟨rfl, (Below.refl _ _).alloc (Nat.le_refl _) _, (rowIs_madeCells w _ _ 71).congr madeShp⟩

theorem resizedU64 (n : Nat) (hn : 0 < n) (hm : n ≤ 1048576) (w : World) : Calls Try.prog 46 #[.slice none 0 0, .int .i64 n] w fun e w' => e = .returned (.slice (some ⟨w.heap.size, 0, none⟩) n n) ∧ Below w.heap.size w w' ∧ w'.rowIs w.heap.size 83 n (fun _ => .int .u64 0) := by
  have hmk := run_make_row' (P := Try.prog) 66 83 (.int .u64 0) 8 Try.underlying66 Try.info83 rfl .i64 .i64 n (by omega) (by omega)
  go_enter Try.func46, Try.ntmps46
  go_wp2
  go_ret
  exact ⟨rfl, (Below.refl _ _).alloc (Nat.le_refl _) _, World.rowIs_made w _ n 83⟩

theorem newTable (w : World) : Calls Try.prog 30 #[] w fun e w' => e = .returned (.pointer (some ⟨w.heap.size, 0, none⟩)) ∧ Below w.heap.size w w' ∧ w'.rowIs w.heap.size 69 4 (tcell none 0 (.slice none 0 0) (.slice none 0 0)) := by
  go_enter Try.func30, Try.ntmps30
  go_wp2
  go_ret
  exact ⟨rfl, (Below.refl _ _).alloc (Nat.le_refl _) _, rowIs_cells4 (heap_alloc_new _ _)⟩

/-- A row of another type is another block. -/
theorem rowIs_ne {w : World} {a b e e' n m : Nat} {f g : Nat → Value} (h : w.rowIs a e n f) (k : w.rowIs b e' m g) (he : e ≠ e') : a ≠ b := by
  rintro rfl
  obtain ⟨c, hc, _⟩ := h
  obtain ⟨d, hd, _⟩ := k
  rw [hc] at hd
  simp at hd
  exact he hd.2

theorem Shp.of_but {B n : Nat} {w w' : World} {sa : Option Addr} {F : Nat → Nat × Nat × Nat} (h : Shp B w sa n F) (hb : ∀ (sg : Nat) (c : Array Value), w.heap[sg]? = some (Obj.cells c 71 (0, 0)) → w'.heap[sg]? = w.heap[sg]?) : Shp B w' sa n F := by
  rcases h with h | ⟨sg, rfl, hB, hr⟩
  · exact .inl h
  · refine .inr ⟨sg, rfl, hB, hr.of_block ?_⟩
    obtain ⟨c, hc, _⟩ := hr
    exact hb sg c hc

theorem bset {p : Nat} {a w : World} (h : But (fun b => b = p) a w) (i : Nat) (v : Value) : But (fun b => b = p) a (w.setCell ⟨p, i, none⟩ v) := h.setCell rfl v

theorem tset (sa sa' : Option Addr) (n n' : Nat) (pv pv' cv : Value) (m : Nat) : ∀ i, i < m → (if i = 1 then pv' else if i = 0 then .slice sa' n' n' else tcell sa n pv cv i) = tcell sa' n' pv' cv i := by
  intro i _
  unfold tcell
  by_cases h1 : i = 1
  · subst h1; simp
  · by_cases h0 : i = 0
    · subst h0; simp
    · simp [h1, h0]

set_option maxHeartbeats 400000 in
theorem reset (n : Nat) (hm : n ≤ 1048576) (w : World) (p : Nat) (hp : w.rowIs p 69 4 (tcell none 0 (.slice none 0 0) (.slice none 0 0))) :
    Calls Try.prog 42 #[.pointer (some ⟨p, 0, none⟩), .int .i64 n] w fun e w' => e = .returned (.tuple #[]) ∧ But (fun b => b = p) w w' ∧ ∃ sa, w'.rowIs p 69 4 (tcell sa n (.slice none 0 0) (.slice none 0 0)) ∧ Shp w.heap.size w' sa n shp0 := by
  have x0 := hp.cell (i := 0) (by omega)
  have x1 := hp.cell (i := 1) (by omega)
  have f0 := hp.frozen
  have hpl := hp.lt
  simp only [tcell, if_true, Nat.one_ne_zero, if_false] at x0 x1
  by_cases h0 : n = 0
  · subst h0
    have c := resizedShape0
    go_enter Try.func42, Try.ntmps42
    go_wp2_with fail
    refine (c _).mono ?_
    rintro e w' ⟨rfl, rfl⟩
    simp only []
    go_wp2_with fail
    go_end0
    exact ⟨rfl, (bset (bset (But.refl _ _) _ _) _ _), none, ((hp.set 0 _).set 1 _).congr (tset none none 0 0 _ _ _ _), .inl ⟨rfl, rfl⟩⟩
  · have c := resizedShape n (by omega) hm
    go_enter Try.func42, Try.ntmps42
    go_wp2_with fail
    refine (c _).mono ?_
    rintro e w' ⟨rfl, hb, hrow⟩
    simp only []
    have x0 := (hb.cell (p := ⟨p, 0, none⟩) hpl).trans x0
    have x1 := (hb.cell (p := ⟨p, 1, none⟩) hpl).trans x1
    have f0 := fun i => (hb.frozen (p := ⟨p, i, none⟩) hpl).trans (f0 i)
    have hp := rowIs_below hp hb hpl
    clear c
    have hb := hide hb
    have hrow := hide hrow
    have hp := hide hp
    go_wp2_with fail
    go_end0
    exact ⟨rfl, (bset (bset (But.of_below hb.out) _ _) _ _), _, ((hp.out.set 0 _).set 1 _).congr (tset none (some ⟨w.heap.size, 0, none⟩) 0 n _ _ _ _), .inr ⟨_, rfl, Nat.le_refl _, (hrow.out.setOther (by simp; omega) _).setOther (by simp; omega) _⟩⟩

end Go.Proofs.Qxb6003686a
