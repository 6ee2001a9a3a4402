/-
  THE CONTRACT OF seal.
-/
import Derived.Test.Qxb6003686aPtSet
import Derived.Deep.RegionLaw
import Derived.Deep.RegionWith
namespace Go.Proofs.Qxb6003686a
open Go.RowKit

/-- The table, sealed: the shapes, the ports, the marks. -/
structure PT (B : Nat) (w : World) (p : Nat) (sa : Option Addr) (n : Nat) (pg pcap cg : Nat) (F : Nat → Nat × Nat × Nat) (L : List Nat) (nc : Nat) (C : Nat → Nat) : Prop where
  hp : B ≤ p
  tb : w.rowIs p 69 4 (tcell sa n (.slice (some ⟨pg, 0, none⟩) L.length pcap) (.slice (some ⟨cg, 0, none⟩) nc nc))
  sh : Shp B w sa n F
  hpg : B ≤ pg
  hcg : B ≤ cg
  po : w.ownsRow B 40 1 (.slice (some ⟨pg, 0, none⟩) L.length pcap) L.length (pvals L)
  cr : w.rowIs cg 83 nc (fun i => .int .u64 (C i : Int))

theorem PB.step {B : Nat} {p : Nat} {sa : Option Addr} {n : Nat} {cv : Value} {F : Nat → Nat × Nat × Nat} {L : List Nat} {pa : Option Addr} {pcap : Nat} {wr : World}
    (h : PB B wr p sa n pa pcap cv F L) (hB : B ≤ wr.heap.size) (o : Obj) {w1 : World} {g cap e : Nat} (own : w1.ownsRow B 40 1 (.slice (some ⟨g, 0, none⟩) (L.length + 1) cap) (L.length + 1) (pvals L ++ [.int .u32 (e : Int)]))
    (gr : (wr.alloc o).grownBy w1 (Value.slice pa L.length pcap).ownBlock) :
    Below B wr (w1.setCell ⟨p, 1, none⟩ (.slice (some ⟨g, 0, none⟩) (L.length + 1) cap)) ∧ PB B (w1.setCell ⟨p, 1, none⟩ (.slice (some ⟨g, 0, none⟩) (L.length + 1) cap)) p sa n (some ⟨g, 0, none⟩) cap cv F (L ++ [e]) := by
  have hgr : ∀ k, k < wr.heap.size → some k ≠ (Value.slice pa L.length pcap).ownBlock → w1.heap[k]? = wr.heap[k]? := fun k hk hne => (gr.block k (by simp; omega) hne).trans (Below.heap_alloc _ _ _ hk)
  have np := own_ne_row h.po h.tb (by decide)
  have tb1 := h.tb.of_block (hgr p h.tb.lt (fun e => np e.symm))
  have ep : (L ++ [e]).length = L.length + 1 := by simp
  refine ⟨?_, h.hp, ?_, ?_, ?_⟩
  · exact (((Below.refl B wr).alloc (by omega) o).grown gr (by simp; omega) (fun k hk => (h.po.lt k hk).1)).setCell h.hp _
  · rw [ep]
    exact (tb1.set 1 _).congr (tset1 _ _ _ _ _ _)
  · refine h.sh.of_but (fun sg c hc => ?_)
    have hlt : sg < wr.heap.size := by
      rcases Nat.lt_or_ge sg wr.heap.size with hlt | hge
      · exact hlt
      · rw [Array.getElem?_eq_none hge] at hc; cases hc
    have hr : wr.rowIs sg 71 c.size (fun i => c[i]!) := ⟨c, hc, rfl, fun i hi => by simp [hi]⟩
    have hne : sg ≠ p := rowIs_ne hr h.tb (by decide)
    rw [Below.heap_setCell _ _ _ _ hne]
    exact hgr sg hlt (fun e => (own_ne_row h.po hr (by decide)) e.symm)
  · rw [ep, pvals_snoc]
    exact own_setAway own (own_ne_row own tb1 (by decide)) _

theorem tset2 (sa : Option Addr) (n : Nat) (pv cv cv' : Value) (m : Nat) : ∀ i, i < m → (if i = 2 then cv' else tcell sa n pv cv i) = tcell sa n pv cv' i := by
  intro i _
  unfold tcell
  by_cases h1 : i = 2
  · subst h1; simp
  · simp [h1]

theorem PB.done {B : Nat} {p : Nat} {sa : Option Addr} {n : Nat} {F : Nat → Nat × Nat × Nat} {L : List Nat} {pg : Nat} {pcap nc : Nat} {w2 w3 : World} {cg : Nat} {v : Value}
    (h : PB B w2 p sa n (some ⟨pg, 0, none⟩) pcap v F L) (hb : Below w2.heap.size w2 w3) (hcg : w2.heap.size ≤ cg) (hB : B ≤ w2.heap.size) (hrow : w3.rowIs cg 83 nc (fun _ => .int .u64 0)) :
    PT B (w3.setCell ⟨p, 2, none⟩ (.slice (some ⟨cg, 0, none⟩) nc nc)) p sa n pg pcap cg F L nc (fun _ => 0) := by
  have tb3 := rowIs_below h.tb hb h.tb.lt
  have hlt := h.po.lt pg rfl
  have po3 : w3.ownsRow B 40 1 (.slice (some ⟨pg, 0, none⟩) L.length pcap) L.length (pvals L) := by
    refine ⟨h.po.1, ?_⟩
    rcases h.po.2 with ⟨h', _⟩ | ⟨g', cap', cur, h', hb', hg', rest⟩
    · cases h'
    · refine .inr ⟨g', cap', cur, h', hb', ?_, rest⟩
      simp only [Value.slice.injEq, Option.some.injEq, Addr.mk.injEq, and_true] at h'
      rw [hb.block g' (by omega)]
      exact hg'
  refine ⟨h.hp, (tb3.set 2 _).congr (tset2 _ _ _ _ _ _), ?_, hlt.1, by omega, own_setAway po3 (own_ne_row po3 tb3 (by decide)) _, hrow.setOther (rowIs_ne hrow tb3 (by decide)) _⟩
  refine h.sh.of_but (fun sg c hc => ?_)
  have hr : w2.rowIs sg 71 c.size (fun i => c[i]!) := ⟨c, hc, rfl, fun i hi => by simp [hi]⟩
  have hne : sg ≠ p := rowIs_ne hr h.tb (by decide)
  rw [Below.heap_setCell _ _ _ _ hne]
  exact hb.block sg hr.lt

set_option maxRecDepth 100000 in
set_option maxHeartbeats 800000 in
theorem seal_ (B : Nat) (w : World) (p : Nat) (sa : Option Addr) (n : Nat) (pa : Option Addr) (pcap : Nat) (F : Nat → Nat × Nat × Nat) (L : List Nat)
    (hB : B ≤ w.heap.size) (h : PB B w p sa n pa pcap (.slice none 0 0) F L) (hL : L.length ≤ 16384) :
    Calls Try.prog 44 #[.pointer (some ⟨p, 0, none⟩)] w fun e w' => e = .returned (.tuple #[]) ∧ Below B w w' ∧
      ∃ pg' pcap' cg, PT B w' p sa n pg' pcap' cg F (L ++ [2147483646]) ((L.length + 1 + 63) / 64) (fun _ => 0) := by
  obtain ⟨i0, hi, hz0, hz1, hz2⟩ := info_parts Try.info40
  have x1 := h.tb.cell (i := 1) (by omega)
  simp only [tcell, Nat.one_ne_zero, if_false, if_true] at x1
  have f1 := h.tb.frozen 1
  have hpl := h.tb.lt
  have npb := own_ne_row h.po h.tb (by decide)
  have h := hide h
  obtain ⟨nc, hnc⟩ : ∃ nc, nc = (L.length + 1 + 63) / 64 := ⟨_, rfl⟩
  rw [← hnc]
  have c := resizedU64 nc (by omega) (by omega)
  go_enter Try.func44, Try.ntmps44
  go_wp2_with (at_builtin; refine wpList_append_lies _ rfl (.tmp 6) (.tmp 7) 36 rfl B 40 i0 _ 1 4 Try.underlying36 hi hz0 hz1 hz2 rfl (by decide) _ _ _ rfl (h.out.po.alloc _) ⟨w.heap.size, 0, none⟩ 1 1 [.int .u32 ((2147483646 : Nat) : Int)] rfl rfl (news1 w _ _) (by intro u hu; simp at hu; subst hu; rfl) (by decide) (by unfold maxLen; omega) (by omega) (by simp; omega) (w.heap.size + 1) (by simp) ?_)
  intro g cap w1 own1 gr1 hat1 hlt1
  have y1 : w1.cell? ⟨p, 1, none⟩ = some (.slice pa L.length pcap) := gr1.cell (acell x1) (fun e => npb e.symm)
  have y2 : w1.frozen? ⟨p, 1, none⟩ = false := (World.frozen?_of_block (gr1.block p (by simp; omega) (fun e => npb e.symm))).trans (afroz hpl f1)
  have st := hide (h.out.step hB _ own1 gr1)
  clear own1 gr1 hat1 hlt1 x1 f1 npb
  go_wp2_with fail
  generalize w1.setCell ⟨p, 1, none⟩ (.slice (some ⟨g, 0, none⟩) (L.length + 1) cap) = w2 at st ⊢
  clear y1 y2
  have x1 := st.out.2.tb.cell (i := 1) (by omega)
  have x2 := st.out.2.tb.cell (i := 2) (by omega)
  simp [tcell] at x1 x2
  have f1 := st.out.2.tb.frozen
  have hpl2 := st.out.2.tb.lt
  clear w1
  have c : ∀ w, Calls Try.prog 46 #[.slice none 0 0, .int .i64 (IntKind.i64.wrap ((IntKind.i64.wrap ((L.length : Int) + 1 + 63)).tdiv 64))] w fun e w' => e = .returned (.slice (some ⟨w.heap.size, 0, none⟩) nc nc) ∧ Below w.heap.size w w' ∧ w'.rowIs w.heap.size 83 nc (fun _ => .int .u64 0) := by
    have eI : IntKind.i64.wrap ((IntKind.i64.wrap ((L.length : Int) + 1 + 63)).tdiv 64) = (nc : Int) := by
      have e1 : IntKind.i64.wrap ((L.length : Int) + 1 + 63) = ((L.length + 1 + 63 : Nat) : Int) := by rw [IntKind.wrap_i64]; omega
      have e2 : (((L.length + 1 + 63 : Nat) : Int).tdiv 64) = (((L.length + 1 + 63) / 64 : Nat) : Int) := rfl
      rw [e1, e2, IntKind.wrap_i64]
      omega
    rw [eI]
    exact c
  have hnc := hide hnc
  go_region_with (go_at_call 46; refine (c _).mono ?_; rintro e w3 ⟨rfl, hb3, hrow3⟩; have z2 := (hb3.cell (p := ⟨p, 2, none⟩) hpl2).trans x2; have fz := fun i => (hb3.frozen (p := ⟨p, i, none⟩) hpl2).trans (f1 i); have hb3 := hide hb3; have hrow3 := hide hrow3)
  all_goals go_wp2_with fail
  all_goals go_end0
  all_goals obtain ⟨b1, b2, b3, b4, b5⟩ := hb3.out
  all_goals have hb4 : Below w2.heap.size w2 w3 := ⟨b1, b2, b3, b4, b5⟩
  all_goals have hB2 : B ≤ w2.heap.size := Nat.le_trans hB st.out.1.size
  all_goals have hrow4 := hrow3.out
  all_goals rw [hnc.out] at hrow4 ⊢
  all_goals exact ⟨rfl, (st.out.1.trans (hb4.mono hB2)).setCell st.out.2.hp _, g, cap, _, st.out.2.done hb4 (Nat.le_refl _) hB2 hrow4⟩

set_option maxRecDepth 100000 in
theorem zzseal (B : Nat) (w : World) (p : Nat) (sa : Option Addr) (n : Nat) (pa : Option Addr) (pcap : Nat) (F : Nat → Nat × Nat × Nat) (L : List Nat)
    (hB : B ≤ w.heap.size) (h : PB B w p sa n pa pcap (.slice none 0 0) F L) (hL : L.length ≤ 16384) :
    Calls Try.prog 33 #[.pointer (some ⟨p, 0, none⟩)] w fun e w' => e = .returned (.tuple #[]) ∧ Below B w w' ∧
      ∃ pg' pcap' cg, PT B w' p sa n pg' pcap' cg F (L ++ [2147483646]) ((L.length + 1 + 63) / 64) (fun _ => 0) := by
  have c := seal_ B w p sa n pa pcap F L hB h hL
  clear h
  go_enter Try.func33, Try.ntmps33
  go_wp2_with fail
  refine c.mono ?_
  rintro e w' ⟨rfl, hw⟩
  simp only []
  have hw := hide hw
  go_wp2_with fail
  go_end0
  exact ⟨rfl, hw.out⟩

end Go.Proofs.Qxb6003686a
