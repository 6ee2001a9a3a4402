/-
  PLAIN LAWS ON ROWS OF CELLS (blocks that the call itself made), and on slices that came in. No walk here.
-/
import Derived.WalkKit
import Derived.WalkSpells
import Derived.WalkLawsBesides
import Derived.Laws.CopyOwn
import Derived.Deep.OwnRows
import Derived.Deep.QuietTactic
import Derived.BigQuiet
namespace Go.Proofs.Qxb6003686a
open Go.RowKit

theorem rowIs_below {w w' : World} {g B n : Nat} {e : TypeId} {f : Nat → Value} (h : w.rowIs g e n f) (hb : Below B w w') (hg : g < B) : w'.rowIs g e n f :=
  h.of_block (hb.block g hg)

theorem rowIs_list {w : World} {g n : Nat} {e : TypeId} {f : Nat → Value} {xs : List Value} (h : w.heap[g]? = some (.cells xs.toArray e (0, 0))) (hn : xs.length = n)
    (hx : ∀ i, i < n → xs[i]? = some (f i)) : w.rowIs g e n f :=
  ⟨xs.toArray, h, by simpa using hn, fun i hi => by simpa using hx i hi⟩

theorem rowIs_block {w : World} {g n : Nat} {e : TypeId} {f : Nat → Value} (h : w.rowIs g e n f) : w.heap[g]? = some (.cells ((List.range n).map f).toArray e (0, 0)) := by
  obtain ⟨c, hc, hn, hx⟩ := h
  rw [hc]
  have : c = ((List.range n).map f).toArray := by
    apply Array.ext_getElem?
    intro i
    by_cases hi : i < n
    · rw [hx i hi]; simp [hi]
    · rw [Array.getElem?_eq_none (by omega)]; simp [hi]
  rw [this]

/-- A slice of one-cell elements, however it came: its elements are 'f'. -/
structure Sl (w : World) (a : Option Addr) (n cap : Nat) (f : Nat → Value) : Prop where
  hle : n ≤ cap
  hnil : a = none → cap = 0
  hcells : n = 0 ∨ ∃ b o, a = some ⟨b, o, none⟩ ∧ ∀ i, i < n → w.cell? ⟨b, o + i, none⟩ = some (f i)

theorem Sl.below {w w' : World} {a : Option Addr} {n cap B : Nat} {f : Nat → Value} (h : Sl w a n cap f) (hb : Below B w w') (hB : w.heap.size ≤ B) :
    Sl w' a n cap f := by
  refine ⟨h.hle, h.hnil, ?_⟩
  rcases h.hcells with h0 | ⟨b, o, ha, hc⟩
  · exact .inl h0
  · refine .inr ⟨b, o, ha, fun i hi => ?_⟩
    have hlt := World.block_lt_of_cell? w _ (hc i hi)
    rw [hb.cell (p := ⟨b, o + i, none⟩) (Nat.lt_of_lt_of_le hlt hB)]
    exact hc i hi

theorem Sl.of_row {w : World} {g : Nat} {e : TypeId} {n cap : Nat} {f : Nat → Value} (h : w.rowIs g e n f) (hl : n ≤ cap) : Sl w (some ⟨g, 0, none⟩) n cap f :=
  ⟨hl, (fun h => by cases h), .inr ⟨g, 0, rfl, fun i hi => by rw [Nat.zero_add]; exact h.cell hi⟩⟩

theorem Sl.congr {w : World} {a : Option Addr} {n cap : Nat} {f g : Nat → Value} (h : Sl w a n cap f) (e : ∀ i, i < n → f i = g i) : Sl w a n cap g := by
  refine ⟨h.hle, h.hnil, ?_⟩
  rcases h.hcells with h0 | ⟨b, o, ha, hc⟩
  · exact .inl h0
  · exact .inr ⟨b, o, ha, fun i hi => by rw [← e i hi]; exact hc i hi⟩

/-- Where there is an element the address is known. -/
theorem Sl.at {w : World} {a : Option Addr} {n cap : Nat} {f : Nat → Value} (h : Sl w a n cap f) (hp : 0 < n) :
    ∃ b o, a = some ⟨b, o, none⟩ ∧ b < w.heap.size ∧ ∀ i, i < n → w.cell? ⟨b, o + i, none⟩ = some (f i) := by
  rcases h.hcells with h0 | ⟨b, o, ha, hc⟩
  · omega
  · exact ⟨b, o, ha, World.block_lt_of_cell? w _ (hc 0 hp), hc⟩

theorem bcell {W w1 : World} {B : Nat} (hb : Below B W w1) : (∀ b o, b < B → w1.cell? ⟨b, o, none⟩ = W.cell? ⟨b, o, none⟩) ∧ (∀ b o, b < B → w1.frozen? ⟨b, o, none⟩ = W.frozen? ⟨b, o, none⟩) :=
  ⟨fun b o h => hb.cell (p := ⟨b, o, none⟩) h, fun b o h => hb.frozen (p := ⟨b, o, none⟩) h⟩

theorem hide {p : Prop} (h : p) : Hid p := h

theorem cellNe {w : World} {g o g' o' : Nat} {v : Value} (h : g ≠ g' ∨ o ≠ o') : (w.setCell ⟨g, o, none⟩ v).cell? ⟨g', o', none⟩ = w.cell? ⟨g', o', none⟩ := by
  apply World.cell?_setCell_other
  intro e
  simp at e
  omega

theorem acell {w : World} {a : Addr} {v : Value} {o : Obj} (h : w.cell? a = some v) : (w.alloc o).cell? a = some v :=
  (World.cell?_of_block (Below.heap_alloc w o a.block (World.block_lt_of_cell? w a h))).trans h

theorem afroz {w : World} {a : Addr} {o : Obj} (hl : a.block < w.heap.size) (h : w.frozen? a = false) : (w.alloc o).frozen? a = false :=
  (World.frozen?_of_block (Below.heap_alloc w o a.block hl)).trans h

theorem bdrewN {B : Nat} {a w : World} (h : Below B a w) (n : Nat) : Below B a (w.drewN n) := ⟨h.os, h.tape, h.output, h.size, h.block⟩

/-- Of the blocks that were there none but those in s has turned. -/
structure But (s : Nat → Prop) (w w' : World) : Prop where
  os : w'.os = w.os
  tape : w'.tape = w.tape
  output : w'.output = w.output
  size : w.heap.size ≤ w'.heap.size
  block : ∀ b, b < w.heap.size → ¬ s b → w'.heap[b]? = w.heap[b]?

theorem But.refl (s : Nat → Prop) (w : World) : But s w w := ⟨rfl, rfl, rfl, Nat.le_refl _, fun _ _ _ => rfl⟩
theorem But.trans {s : Nat → Prop} {a b c : World} (h : But s a b) (k : But s b c) : But s a c :=
  ⟨k.os.trans h.os, k.tape.trans h.tape, k.output.trans h.output, Nat.le_trans h.size k.size, fun i hi hs => (k.block i (Nat.lt_of_lt_of_le hi h.size) hs).trans (h.block i hi hs)⟩
theorem But.trans2 {s t u : Nat → Prop} {a b c : World} (h : But s a b) (k : But t b c) (hs : ∀ x, x < a.heap.size → s x → u x) (ht : ∀ x, x < a.heap.size → t x → u x) : But u a c :=
  ⟨k.os.trans h.os, k.tape.trans h.tape, k.output.trans h.output, Nat.le_trans h.size k.size, fun i hi hu => (k.block i (Nat.lt_of_lt_of_le hi h.size) (fun e => hu (ht i hi e))).trans (h.block i hi (fun e => hu (hs i hi e)))⟩
theorem But.alloc {s : Nat → Prop} {a w : World} (h : But s a w) (o : Obj) : But s a (w.alloc o) :=
  h.trans ⟨rfl, rfl, rfl, by simp, fun k hk _ => Below.heap_alloc _ _ _ hk⟩
theorem But.setCell {s : Nat → Prop} {a w : World} (h : But s a w) {p : Addr} (hp : s p.block) (u : Value) : But s a (w.setCell p u) :=
  h.trans ⟨rfl, rfl, rfl, by simp [World.setCell], fun k _ hs => Below.heap_setCell _ _ _ _ (fun e => hs (e ▸ hp))⟩
/-- A store into a block that was not there. -/
theorem But.setNew {s : Nat → Prop} {a w : World} (h : But s a w) {p : Addr} (hp : a.heap.size ≤ p.block) (u : Value) : But s a (w.setCell p u) :=
  ⟨h.os, h.tape, h.output, by simpa [World.setCell] using h.size, fun k hk hs => (Below.heap_setCell _ _ _ _ (by omega)).trans (h.block k hk hs)⟩
theorem But.drew {s : Nat → Prop} {a w : World} (h : But s a w) : But s a w.drew := ⟨h.os, h.tape, h.output, h.size, h.block⟩
theorem But.drewN {s : Nat → Prop} {a w : World} (h : But s a w) (n : Nat) : But s a (w.drewN n) := ⟨h.os, h.tape, h.output, h.size, h.block⟩
theorem But.mono {s t : Nat → Prop} {a w : World} (h : But s a w) (hst : ∀ b, s b → t b) : But t a w := ⟨h.os, h.tape, h.output, h.size, fun b hb ht => h.block b hb (fun hs => ht (hst b hs))⟩
theorem But.below {s : Nat → Prop} {a w : World} (h : But s a w) {B : Nat} (hs : ∀ b, s b → B ≤ b) (hB : B ≤ a.heap.size) : Below B a w :=
  ⟨h.os, h.tape, h.output, h.size, fun k hk => h.block k (by omega) (fun e => by have := hs k e; omega)⟩
theorem But.of_below {s : Nat → Prop} {a w : World} (h : Below a.heap.size a w) : But s a w := ⟨h.os, h.tape, h.output, h.size, fun k hk _ => h.block k hk⟩
theorem But.cell {s : Nat → Prop} {a w : World} (h : But s a w) {p : Addr} (hp : p.block < a.heap.size) (hs : ¬ s p.block) : w.cell? p = a.cell? p := World.cell?_of_block (w := a) (h.block p.block hp hs)

/-- The source of a copy that fills the whole row. -/
theorem copy_src {w w1 : World} {ad : Addr} {n cap : Nat} {f : Nat → Value} (h : Sl w (some ad) n cap f) (hb : Below w.heap.size w w1) :
    0 < ((List.range n).map f).length → ∀ j v, ((List.range n).map f)[j]? = some v → w1.cell? (ad.add j) = some v := by
  intro hp j v hv
  have hp' : 0 < n := by simpa using hp
  obtain ⟨b, o, ha, hlt, hc⟩ := h.at hp'
  obtain rfl := Option.some.inj ha
  have hj : j < n := by
    have := (List.getElem?_eq_some_iff.1 hv).1
    simpa using this
  rw [Addr.add_lit, hb.cell (p := ⟨b, o + j, none⟩) hlt, hc j hj]
  simpa [hj] using hv

theorem splice_all {α : Type} (L cs : List α) (h : cs.length = L.length) : splice L 0 cs = cs := by
  simp [splice, h]

/-- 'make([]T, n)', T of whatever size: for every world. -/
theorem run_make_rows {P : Program} (t e : TypeId) (zs : Array Value) (z : Value) (size bytes m : Nat) (ht : P.underlying t = some (.slice e)) (hinfo : (P.info? e).map (fun i => (i.zero, i.size, i.bytes)) = some (some z, size, bytes)) (hz : z.cells = zs)
    (kl kc : IntKind) (n : Nat) (hm : n * size = m) (hbytes : bytes * n ≤ 281474976710656) (h63 : n ≤ 9223372036854775807) (w : World) :
    (Instr.makeSlice t (.int kl (n : Int)) (.int kc (n : Int))).run P w = .ok (.slice (some ⟨w.heap.size, 0, none⟩) n n) (w.alloc (.cells (madeCells zs m) e)) := by
  obtain ⟨i, hi, hzz⟩ := Option.map_eq_some_iff.1 hinfo
  simp only [Prod.mk.injEq] at hzz
  obtain ⟨hz0, hs, hb⟩ := hzz
  have hb' : (i.bytes : Int) * (n : Int) ≤ 281474976710656 := by
    have h : ((i.bytes * n : Nat) : Int) ≤ 281474976710656 := by rw [hb]; omega
    rwa [Int.natCast_mul] at h
  have hr := run_make (P := P) w t e i z ht hi hz0 kl kc n n (by omega) (Int.le_refl _) hb' (by omega)
  simp only [Int.toNat_natCast, hs, hz, hm] at hr
  exact hr

/-- 'make([]T, 0, n)'. -/
theorem run_make_cap {P : Program} (t e : TypeId) (zs : Array Value) (z : Value) (size bytes m : Nat) (ht : P.underlying t = some (.slice e)) (hinfo : (P.info? e).map (fun i => (i.zero, i.size, i.bytes)) = some (some z, size, bytes)) (hz : z.cells = zs)
    (kl kc : IntKind) (n : Nat) (hm : n * size = m) (hbytes : bytes * n ≤ 281474976710656) (h63 : n ≤ 9223372036854775807) (w : World) :
    (Instr.makeSlice t (.int kl 0) (.int kc (n : Int))).run P w = .ok (.slice (some ⟨w.heap.size, 0, none⟩) 0 n) (w.alloc (.cells (madeCells zs m) e)) := by
  obtain ⟨i, hi, hzz⟩ := Option.map_eq_some_iff.1 hinfo
  simp only [Prod.mk.injEq] at hzz
  obtain ⟨hz0, hs, hb⟩ := hzz
  have hb' : (i.bytes : Int) * (n : Int) ≤ 281474976710656 := by
    have h : ((i.bytes * n : Nat) : Int) ≤ 281474976710656 := by rw [hb]; omega
    rwa [Int.natCast_mul] at h
  have hr := run_make (P := P) w t e i z ht hi hz0 kl kc 0 n (by omega) (by omega) hb' (by omega)
  simp only [Int.toNat_natCast, hs, hz, hm] at hr
  exact hr

theorem rowIs_madeCells (w : World) (zs : Array Value) (n : Nat) (t : TypeId) : (w.alloc (.cells (madeCells zs n) t)).rowIs w.heap.size t n (fun i => zs[i % zs.size]!) :=
  ⟨_, heap_alloc_new _ _, size_madeCells _ _, fun i hi => by simp [madeCells, hi]⟩

end Go.Proofs.Qxb6003686a
