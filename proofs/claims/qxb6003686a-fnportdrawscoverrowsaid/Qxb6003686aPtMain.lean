/-
  FnPortDrawsCoverRow's OWN WALK.
-/
import Derived.Test.Qxb6003686aPtPlain
namespace Go.Proofs.Qxb6003686a
open Go.RowKit

theorem PT.below {B : Nat} {w w' : World} {p : Nat} {sa : Option Addr} {n : Nat} {pg pcap cg : Nat} {F : Nat → Nat × Nat × Nat} {L : List Nat} {nc : Nat} {C : Nat → Nat} (h : PT B w p sa n pg pcap cg F L nc C) (hb : Below w.heap.size w w') : PT B w' p sa n pg pcap cg F L nc C := by
  refine ⟨h.hp, rowIs_below h.tb hb h.tb.lt, ?_, h.hpg, h.hcg, ?_, rowIs_below h.cr hb h.cr.lt⟩
  · refine h.sh.of_but (fun sg c hc => hb.block sg ?_)
    rcases Nat.lt_or_ge sg w.heap.size with hlt | hge
    · exact hlt
    · rw [Array.getElem?_eq_none hge] at hc; cases hc
  · refine ⟨h.po.1, ?_⟩
    rcases h.po.2 with h' | ⟨g', cap', cur, h', hb', hg', rest⟩
    · exact .inl h'
    · refine .inr ⟨g', cap', cur, h', hb', ?_, rest⟩
      rw [hb.block g' ((h.po.lt g' (by rw [h']; rfl)).2)]
      exact hg'

theorem PT.alloc2 {B : Nat} {w : World} {p : Nat} {sa : Option Addr} {n : Nat} {pg pcap cg : Nat} {F : Nat → Nat × Nat × Nat} {L : List Nat} {nc : Nat} {C : Nat → Nat} (h : PT B w p sa n pg pcap cg F L nc C) (o o' : Obj) : PT B ((w.alloc o).alloc o') p sa n pg pcap cg F L nc C :=
  h.below (((Below.refl _ _).alloc (Nat.le_refl _) _).alloc (by simp) _)

theorem CR.start (w : World) (n : Nat) (lists : Nat → List Nat) : CR ((w.alloc (.cells (madeCells #[.int .i32 0] n) 21)).alloc (.cells (madeCells #[.int .i32 0] n) 21)) w.heap.size (w.heap.size + 1) n (evOf lists 0) ((w.alloc (.cells (madeCells #[.int .i32 0] n) 21)).alloc (.cells (madeCells #[.int .i32 0] n) 21)) := by
  refine ⟨But.refl _ _, ?_, ?_⟩
  · have := (World.rowIs_made w (.int .i32 0) n 21).alloc (.cells (madeCells #[.int .i32 0] n) 21)
    simpa [cntA, evOf] using this
  · have := World.rowIs_made (w.alloc (.cells (madeCells #[.int .i32 0] n) 21)) (.int .i32 0) n 21
    simp only [World.size_alloc] at this
    simpa [cntB, evOf] using this

theorem dd_le {LL : Nat → Nat} {n : Nat} (h : ∀ s, s < n → LL s ≤ 64) : ∀ s, s < n → dd LL s ≤ 64 := by
  intro s hs
  have := h s hs
  unfold dd
  split <;> omega

def ivals (L : List Nat) : List Value := L.map fun (x : Nat) => Value.int .i32 (x : Int)
theorem ivals_snoc (L : List Nat) (e : Nat) : ivals (L ++ [e]) = ivals L ++ [.int .i32 (e : Int)] := by simp [ivals]

/-- What the loop that draws has laid so far. -/
structure BR (wb : World) (m kA kO kE : Nat) (A O E : List Nat) (wr : World) : Prop where
  bel : Below wb.heap.size wb wr
  r1 : wr.ownsRow wb.heap.size 21 1 (.slice (some ⟨wb.heap.size, 0, none⟩) kA m) kA (ivals A)
  r2 : wr.ownsRow wb.heap.size 21 1 (.slice (some ⟨wb.heap.size + 1, 0, none⟩) kO m) kO (ivals O)
  r3 : wr.ownsRow wb.heap.size 40 1 (.slice (some ⟨wb.heap.size + 1 + 1, 0, none⟩) kE m) kE (pvals E)

namespace BR
variable {wb : World} {m kA kO kE : Nat} {A O E : List Nat} {wr : World}

theorem keep {w w1 : World} {B e c s : Nat} {row g : Nat} {xs : List Value} (h : w.ownsRow B e 1 (.slice (some ⟨g, 0, none⟩) s c) s xs) (gr : w.grownBy w1 (some row)) (hne : g ≠ row) : w1.ownsRow B e 1 (.slice (some ⟨g, 0, none⟩) s c) s xs :=
  h.kept gr (.inr (by simp [Value.ownBlock]; omega))

theorem lt3 (h : BR wb m kA kO kE A O E wr) : wb.heap.size + 1 + 1 < wr.heap.size := (h.r3.lt _ rfl).2

theorem alloc (h : BR wb m kA kO kE A O E wr) (o : Obj) : BR wb m kA kO kE A O E (wr.alloc o) := ⟨h.bel.alloc h.bel.size o, h.r1.alloc o, h.r2.alloc o, h.r3.alloc o⟩

theorem app1 (h : BR wb m kA kO kE A O E wr) {w1 : World} {x : Nat} (own : w1.ownsRow wb.heap.size 21 1 (.slice (some ⟨wb.heap.size, 0, none⟩) (kA + 1) m) (kA + 1) (ivals A ++ [.int .i32 (x : Int)])) (gr : wr.grownBy w1 (some wb.heap.size)) :
    BR wb m (kA + 1) kO kE (A ++ [x]) O E w1 :=
  ⟨h.bel.grown gr h.bel.size (fun k hk => by cases hk; exact Nat.le_refl _), by rw [ivals_snoc]; exact own, keep h.r2 gr (by omega), keep h.r3 gr (by omega)⟩
theorem app2 (h : BR wb m kA kO kE A O E wr) {w1 : World} {x : Nat} (own : w1.ownsRow wb.heap.size 21 1 (.slice (some ⟨wb.heap.size + 1, 0, none⟩) (kO + 1) m) (kO + 1) (ivals O ++ [.int .i32 (x : Int)])) (gr : wr.grownBy w1 (some (wb.heap.size + 1))) :
    BR wb m kA (kO + 1) kE A (O ++ [x]) E w1 :=
  ⟨h.bel.grown gr h.bel.size (fun k hk => by cases hk; omega), keep h.r1 gr (by omega), by rw [ivals_snoc]; exact own, keep h.r3 gr (by omega)⟩
theorem app3 (h : BR wb m kA kO kE A O E wr) {w1 : World} {x : Nat} (own : w1.ownsRow wb.heap.size 40 1 (.slice (some ⟨wb.heap.size + 1 + 1, 0, none⟩) (kE + 1) m) (kE + 1) (pvals E ++ [.int .u32 (x : Int)])) (gr : wr.grownBy w1 (some (wb.heap.size + 1 + 1))) :
    BR wb m kA kO (kE + 1) A O (E ++ [x]) w1 :=
  ⟨h.bel.grown gr h.bel.size (fun k hk => by cases hk; omega), keep h.r1 gr (by omega), keep h.r2 gr (by omega), by rw [pvals_snoc]; exact own⟩

theorem ownBelow {w w' : World} {B e z k : Nat} {v : Value} {xs : List Value} (h : w.ownsRow B e z v k xs) (hb : Below w.heap.size w w') : w'.ownsRow B e z v k xs := by
  refine ⟨h.1, ?_⟩
  rcases h.2 with h' | ⟨g', cap', cur, h', hb', hg', rest⟩
  · exact .inl h'
  · refine .inr ⟨g', cap', cur, h', hb', ?_, rest⟩
    rw [hb.block g' ((h.lt g' (by rw [h']; rfl)).2)]
    exact hg'

theorem below (h : BR wb m kA kO kE A O E wr) {w' : World} (hb : Below wr.heap.size wr w') : BR wb m kA kO kE A O E w' :=
  ⟨h.bel.trans (hb.mono h.bel.size), ownBelow h.r1 hb, ownBelow h.r2 hb, ownBelow h.r3 hb⟩

theorem start (wb : World) (m : Nat) (hm : m ≤ maxLen) : BR wb m 0 0 0 [] [] [] (((wb.alloc (.cells (madeCells #[.int .i32 0] m) 21)).alloc (.cells (madeCells #[.int .i32 0] m) 21)).alloc (.cells (madeCells #[.int .u32 0] m) 40)) := by
  refine ⟨(((Below.refl _ _).alloc (Nat.le_refl _) _).alloc (by simp) _).alloc (by simp; omega) _, ?_, ?_, ?_⟩
  · exact ((World.ownsRow_made wb _ m (Nat.le_refl _) hm (by rw [size_madeCells, Nat.mul_one])).alloc _).alloc _
  · have := World.ownsRow_made (base := wb.heap.size) (e := 21) (size := 1) (wb.alloc (.cells (madeCells #[.int .i32 0] m) 21)) (madeCells #[.int .i32 0] m) m (by simp) hm (by rw [size_madeCells, Nat.mul_one])
    simp only [World.size_alloc] at this
    exact this.alloc _
  · have := World.ownsRow_made (base := wb.heap.size) (e := 40) (size := 1) ((wb.alloc (.cells (madeCells #[.int .i32 0] m) 21)).alloc (.cells (madeCells #[.int .i32 0] m) 21)) (madeCells #[.int .u32 0] m) m (by simp; omega) hm (by rw [size_madeCells, Nat.mul_one])
    simp only [World.size_alloc] at this
    exact this
end BR

theorem own_sl {w : World} {B g k c : Nat} {L : List Nat} (h : w.ownsRow B 21 1 (.slice (some ⟨g, 0, none⟩) k c) k (ivals L)) : Sl w (some ⟨g, 0, none⟩) k c (fun i => .int .i32 ((L.getD i 0 : Nat) : Int)) := by
  have hl : L.length = k := by have := h.1; simpa [ivals] using this
  refine ⟨?_, (fun h => by cases h), .inr ⟨g, 0, rfl, fun i hi => ?_⟩⟩
  · rcases h.2 with ⟨h', _⟩ | ⟨g', cap', cur, h', _, _, hle, _⟩
    · cases h'
    · simp only [Value.slice.injEq] at h'
      omega
  · have := h.cells (g := g) rfl i (.int .i32 ((L.getD i 0 : Nat) : Int)) (by simp [ivals, hl, hi])
    rwa [Addr.add_lit] at this

theorem own_row {w : World} {B g m : Nat} {L : List Nat} (h : w.ownsRow B 40 1 (.slice (some ⟨g, 0, none⟩) m m) m (pvals L)) : w.rowIs g 40 m (fun i => .int .u32 ((L.getD i 0 : Nat) : Int)) := by
  have hl : L.length = m := by have := h.1; simpa [pvals] using this
  rcases h.2 with ⟨h', _⟩ | ⟨g', cap', cur, h', _, hg, _, _, hcs, htake⟩
  · cases h'
  · simp only [Value.slice.injEq, Option.some.injEq, Addr.mk.injEq, and_true, true_and] at h'
    obtain ⟨rfl, rfl⟩ := h'
    refine ⟨cur, hg, by omega, fun i hi => ?_⟩
    rw [List.take_of_length_le (by simp; omega)] at htake
    have := congrArg (fun l : List Value => l[i]?) htake
    simpa [pvals, hl, hi] using this

theorem prt_mono (R LL : Nat → Nat) {s t : Nat} (h : s ≤ t) : (prt R LL s).length ≤ (prt R LL t).length := by
  induction t with
  | zero => have : s = 0 := by omega
            subst this; exact Nat.le_refl _
  | succ t ih =>
    by_cases e : s = t + 1
    · subst e; exact Nat.le_refl _
    · have := ih (by omega)
      rw [show prt R LL (t + 1) = prt R LL t ++ lstOf R LL t from rfl, List.length_append]
      omega

theorem prt_mem (R LL : Nat → Nat) : ∀ n x, x ∈ prt R LL n → ∃ s i, s < n ∧ i < LL s ∧ x = rowOf R LL s i
  | 0, x, h => by simp [prt] at h
  | n + 1, x, h => by
    rw [show prt R LL (n + 1) = prt R LL n ++ lstOf R LL n from rfl] at h
    rcases List.mem_append.1 h with h | h
    · obtain ⟨s, i, hs, hi, e⟩ := prt_mem R LL n x h
      exact ⟨s, i, by omega, hi, e⟩
    · unfold lstOf lst at h
      obtain ⟨h1, _⟩ := List.mem_filter.1 h
      obtain ⟨i, hi, he⟩ := List.mem_map.1 h1
      exact ⟨n, i, by omega, List.mem_range.1 hi, he.symm⟩

theorem port_lt (R LL : Nat → Nat) (n : Nat) (hr : ∀ s i, s < n → i < LL s → rowOf R LL s i = elim_ ∨ rowOf R LL s i < n) (hn : n ≤ 256) (i : Nat) (hi : i < (prt R LL n ++ [2147483646]).length) : (prt R LL n ++ [2147483646]).getD i 0 < 2147483648 := by
  have hm : (prt R LL n ++ [2147483646]).getD i 0 ∈ prt R LL n ++ [2147483646] := by
    rw [List.getD_eq_getElem?_getD, List.getElem?_eq_getElem hi]
    exact List.getElem_mem hi
  rcases List.mem_append.1 hm with h | h
  · obtain ⟨s, j, hs, hj, e⟩ := prt_mem R LL n _ h
    rw [e]
    rcases hr s j hs hj with h' | h'
    · rw [h']; decide
    · omega
  · rw [List.mem_singleton.1 h]; decide

/-- What stands in entries behind the move. -/
def lead4 (R LL : Nat → Nat) (n i : Nat) : Nat := dest (prt R LL n ++ [2147483646]) ((cat (ent R LL n) (dd LL) n).getD i 0) ((cat (fun s _ => s) (dd LL) n).getD i 0)

theorem lead4_at (R LL : Nat → Nat) (n s j : Nat) (hs : s < n) (hj : j < dd LL s) (hr : ∀ s i, s < n → i < LL s → rowOf R LL s i = elim_ ∨ rowOf R LL s i < n) (hn : n ≤ 256) : lead4 R LL n (off (dd LL) s + j) = lead R LL s j := by
  unfold lead4
  rw [cat_getD _ _ s j hj n hs, cat_getD _ _ s j hj n hs]
  exact (dest_ent R LL n s j hs (fun i hi => hr s i hs hi) hn).1

theorem countPre (R LL : Nat → Nat) (n : Nat) (C : Nat → Nat) (hle : ∀ s, s < n → LL s ≤ 64) (hr : ∀ s i, s < n → i < LL s → rowOf R LL s i = elim_ ∨ rowOf R LL s i < n)
    (hm : ∀ i, i < off (dd LL) n → (C ((cat (ent R LL n) (dd LL) n).getD i 0 / 64)).testBit ((cat (ent R LL n) (dd LL) n).getD i 0 % 64) = true) :
    ∀ s, s < n → (Fpart R LL n s).2.1 = (lstOf R LL s).length ∧ (lstOf R LL s).length ≤ 64 ∧ (Fpart R LL n s).1 + (lstOf R LL s).length ≤ (prt R LL n ++ [2147483646]).length ∧ ∀ j, j < (lstOf R LL s).length →
      (prt R LL n ++ [2147483646]).getD ((Fpart R LL n s).1 + j) 0 = (lstOf R LL s).getD j 0 ∧ ((lstOf R LL s).getD j 0 = elim_ ∨ (lstOf R LL s).getD j 0 < n) ∧ (C (((Fpart R LL n s).1 + j) / 64)).testBit (((Fpart R LL n s).1 + j) % 64) = true := by
  intro s hs
  have eF : Fpart R LL n s = FF R LL s := if_pos hs
  have hle2 : (lstOf R LL s).length ≤ LL s := lst_le _ _ _
  have h64 := hle s hs
  rw [eF]
  unfold FF
  refine ⟨rfl, by omega, ?_, fun j hj => ?_⟩
  · by_cases h0 : (lstOf R LL s).length = 0
    · have h1 : (prt R LL s).length ≤ (prt R LL n).length := prt_mono R LL (by omega)
      rw [List.length_append]
      show (prt R LL s).length + _ ≤ _
      omega
    · have := (prt_getD R LL s ((lstOf R LL s).length - 1) (by omega) n hs).1
      rw [List.length_append]
      show (prt R LL s).length + _ ≤ _
      omega
  · obtain ⟨h1, h2⟩ := prt_getD R LL s j hj n hs
    show (prt R LL n ++ [2147483646]).getD ((prt R LL s).length + j) 0 = _ ∧ _ ∧ (C (((prt R LL s).length + j) / 64)).testBit (((prt R LL s).length + j) % 64) = true
    refine ⟨by rw [getD_append_left' _ _ _ h1]; exact h2, ?_, ?_⟩
    · obtain ⟨i, hi, e⟩ := lstOf_mem R LL s j hj
      rw [e]
      exact hr s i hs hi
    · have hjd : j < dd LL s := by
        unfold dd
        split <;> omega
      have h3 : off (dd LL) s + j < off (dd LL) n := by
        have a1 : off (dd LL) (s + 1) ≤ off (dd LL) n := off_mono hs
        have a2 : off (dd LL) (s + 1) = off (dd LL) s + dd LL s := rfl
        omega
      have h4 := hm _ h3
      rw [cat_getD _ _ s j hjd n hs] at h4
      unfold ent at h4
      rw [if_pos hj] at h4
      exact h4

theorem row_of_splice {w : World} {g d : Nat} {h : Nat → Nat} (hr : w.heap[g]? = some (.cells (splice ((List.range d).map fun _ => Value.int .u32 0) 0 ((List.range d).map fun j => Value.int .u32 (h j : Int))).toArray 40 (0, 0))) :
    w.rowIs g 40 d (fun j => .int .u32 (h j : Int)) := by
  rw [splice_all _ _ (by simp)] at hr
  exact rowIs_list hr (by simp) (fun i hi => by simp [hi])

theorem row_src2 {w : World} {o : Obj} {g q d : Nat} {f : Nat → Nat} (h : ∀ j, j < d → w.cell? ⟨g, q + j, none⟩ = some (.int .u32 (f j : Int))) :
    ∀ j v, ((List.range d).map fun j => Value.int .u32 (f j : Int))[j]? = some v → (w.alloc o).cell? ((⟨g, q, none⟩ : Addr).add j) = some v := by
  intro j v hv
  have hj : j < d := by
    have := (List.getElem?_eq_some_iff.1 hv).1
    simpa using this
  have hv' : v = .int .u32 (f j : Int) := by simpa [hj] using hv.symm
  subst hv'
  rw [Addr.add_lit]
  exact acell (h j hj)

set_option maxRecDepth 100000 in
set_option maxHeartbeats 4000000 in
theorem main5 (a0 a1 : Option Addr) (N c0 n c1 : Nat) (R : Nat → Nat) (LZ : Nat → Int) (w : World) (h0 : Sl w a0 N c0 (fun i => .int .u32 (R i : Int))) (h1 : Sl w a1 n c1 (fun i => .int .i64 (LZ i))) (hN : N ≤ 9223372036854775807) (hn : n ≤ 9223372036854775807) (hR : ∀ i, i < N → R i < 4294967296) :
    Calls Try.prog 5 #[.slice a0 N c0, .slice a1 n c1] w fun e w' => e = .returned (.bool true) ∧ Below w.heap.size w w' := by
  have cB := bytesPort a0 a1 N c0 n c1 w hN hn
  by_cases hb : N + n ≤ 1048576
  case neg =>
    rw [decide_eq_false hb] at cB
    clear h0 h1 hR
    go_enter Try.func5, Try.ntmps5
    go_wp2_with fail
    refine cB.mono ?_
    rintro e w' ⟨rfl, rfl⟩
    simp only []
    go_wp2_with fail
    go_ret
    exact ⟨rfl, Below.refl _ _⟩
  case pos =>
    rw [decide_eq_true hb] at cB
    have cF := rowsFit a0 a1 N c0 n c1 R LZ w h0 h1 (by omega) (by omega) hR
    replace h0 := hide h0
    replace h1 := hide h1
    replace hR := hide hR
    by_cases hb2 : 4 * N + 8 * n ≤ 1048576
    case neg =>
      go_enter Try.func5, Try.ntmps5
      go_wp2_with fail
      refine cB.mono ?_
      rintro e w' ⟨rfl, rfl⟩
      simp only []
      go_wp2_with fail
      go_ret
      exact ⟨rfl, Below.refl _ _⟩
    case pos =>
      go_enter Try.func5, Try.ntmps5
      go_wp2_with fail
      refine cB.mono ?_
      rintro e w' ⟨rfl, rfl⟩
      simp only []
      go_wp2_with fail
      refine cF.mono ?_
      rintro e w' ⟨rfl, b, rfl, hfit⟩
      simp only []
      clear cB cF
      cases b with
      | false =>
        go_wp2_with fail
        go_ret
        exact ⟨rfl, Below.refl _ _⟩
      | true =>
        replace hfit := hfit rfl
        have cC := cloneU32 a0 N c0 _ w' (fun _ => rfl) h0.out (by omega)
        replace hfit := hide hfit
        go_wp2_with fail
        refine cC.mono ?_
        rintro e w1 ⟨a0', c0', rfl, hb1, hs0⟩
        simp only []
        have cI := cloneInt a1 n c1 _ w1 (fun _ => rfl) (h1.out.below hb1 (Nat.le_refl _)) (by omega)
        clear cC
        replace hb1 := hide hb1
        replace hs0 := hide hs0
        go_wp2_with fail
        refine cI.mono ?_
        rintro e w2 ⟨a1', c1', rfl, hb2', hs1⟩
        simp only []
        clear cI
        obtain ⟨LL, hLLe⟩ : ∃ LL : Nat → Nat, LL = fun s => (LZ s).toNat := ⟨_, rfl⟩
        rw [← hLLe] at hfit
        clear hLLe
        have hs1 : Sl w2 a1' n c1' (fun i => .int .i64 (LL i : Int)) := hs1.congr (fun i hi => by rw [(hfit.out.hz i hi).1])
        have hs0 := hs0.out.below hb2' (Nat.le_refl _)
        have hle64 : ∀ s, s < n → LL s ≤ 64 := fun s hs => (hfit.out.hz s hs).2
        have hn2 := hfit.out.hn
        have hoN := hfit.out.hN
        have hrow : ∀ s i, s < n → i < LL s → rowOf R LL s i = elim_ ∨ rowOf R LL s i < n := by
          intro s i hs hi
          refine hfit.out.hR _ ?_
          have h1 : off LL (s + 1) ≤ off LL n := off_mono hs
          have h2 : off LL (s + 1) = off LL s + LL s := rfl
          omega
        have cT := buildTable a0' a1' N c0' n c1' R LL w2 hs0 hs1 hn2 hle64 hoN (by omega) hR.out
        replace hb2' := hide (hb1.out.trans (hb2'.mono hb1.out.size))
        clear h0 h1 hfit hb1
        replace hs0 := hide hs0
        replace hs1 := hide hs1
        replace hle64 := hide hle64
        replace hrow := hide hrow
        go_wp2_with fail
        refine cT.mono ?_
        rintro e w3 ⟨p, sa, pg, pcap, cg, rfl, hb3, hpt⟩
        simp only []
        clear cT
        obtain ⟨M, hM⟩ : ∃ M, M = (prt R LL n).length := ⟨_, rfl⟩
        have hM2 : M ≤ 16384 := by
          rw [hM]
          refine Nat.le_trans (prt_le R LL n) ?_
          have := off_le hle64.out n (Nat.le_refl _)
          omega
        have hLl : (prt R LL n ++ [2147483646]).length = M + 1 := by rw [List.length_append, hM]; rfl
        have cL := zzloop hpt (by omega) (by omega)
        rw [hLl, Nat.add_sub_cancel] at cL
        rw [← hM] at hpt
        have hz0 := hide hs0.out
        have hz1 := hide hs1.out
        have hbz := hide hb3
        replace hs0 := hs0.out.below hb3 (Nat.le_refl _)
        replace hs1 := hs1.out.below hb3 (Nat.le_refl _)
        replace hb3 := hide (hb2'.out.trans (hb3.mono hb2'.out.size))
        replace hM := hide hM
        replace hLl := hide hLl
        replace hpt := hide hpt
        replace hs0 := hide hs0
        replace hs1 := hide hs1
        have hw2 := hb2'
        clear hb2'
        go_wp2_with fail
        refine cL.mono ?_
        rintro e w3' ⟨rfl, rfl⟩
        simp only []
        clear cL
        go_wp2_with fail
        go_loop [8, 9] (fun v i => ∃ s : Nat, s ≤ n ∧ i = .int .i64 s ∧ v = .int .i64 (off (dd LL) s)) (fun _ i => n - (intOf i).toNat)
        case atStart => exact ⟨0, Nat.zero_le _, rfl, rfl⟩
        case round =>
          obtain ⟨s, hs, rfl, rfl⟩ := hrel
          have hod := off_le (dd_le hle64.out) s hs
          by_cases hlt : s < n
          · obtain ⟨b1, o1, rfl, hl1, hc1⟩ := hs1.out.at (by omega)
            have e1 := hc1 s hlt
            have hls := hle64.out s hlt
            clear hc1
            have eo : off (dd LL) (s + 1) = off (dd LL) s + (if LL s = 0 then 1 else LL s) := rfl
            generalize off (dd LL) s = q at *
            by_cases hz : LL s = 0
            · rw [if_pos hz] at eo
              rw [hz] at e1
              replace eo := hide eo
              clear hz
              go_wp2_with fail
              go_round
              case rel => exact ⟨s + 1, by omega, by go_num, by rw [eo.out]; go_num⟩
              case measure => simp [intOf]; omega
            · rw [if_neg hz] at eo
              generalize LL s = d at *
              have hz2 : ((d : Int) == 0) = false := by simp; omega
              replace eo := hide eo
              go_wp2_with fail
              go_round
              case rel => exact ⟨s + 1, by omega, by go_num, by rw [eo.out]; go_num⟩
              case measure => simp [intOf]; omega
          · obtain rfl : n = s := by omega
            obtain ⟨m, hm⟩ : ∃ m, m = off (dd LL) n := ⟨_, rfl⟩
            rw [← hm] at hod ⊢
            replace hm := hide hm
            have hmk0 := run_make_cap (P := Try.prog) 35 21 #[.int .i32 0] (.int .i32 0) 1 4 m Try.underlying35 Try.info21 rfl .i64 .i64 m (by omega) (by omega) (by omega)
            have hmk1 := run_make_cap (P := Try.prog) 36 40 #[.int .u32 0] (.int .u32 0) 1 4 m Try.underlying36 Try.info40 rfl .i64 .i64 m (by omega) (by omega) (by omega)
            go_wp2_with fail
            have hm16 : m ≤ 16384 := by omega
            have hst := hide (BR.start w3' m (by unfold maxLen; omega))
            clear hmk0 hmk1 hod
            obtain ⟨wb, rfl⟩ : ∃ wb : World, wb = w3' := ⟨_, rfl⟩
            go_loopw [11, 12, 13, 14] (fun v1 v2 v3 i wr => ∃ s k : Nat, s ≤ n ∧ k ≤ m ∧ i = .int .i64 s ∧ v1 = .slice (some ⟨wb.heap.size, 0, none⟩) k m ∧ v2 = .slice (some ⟨wb.heap.size + 1, 0, none⟩) k m ∧ v3 = .slice (some ⟨wb.heap.size + 1 + 1, 0, none⟩) k m ∧ Hid (k = off (dd LL) s ∧ BR wb m k k k (cat (fun s _ => s) (dd LL) s) (cat (fun _ j => j) (dd LL) s) (cat (ent R LL n) (dd LL) s) wr)) (fun _ _ _ i _ => n - (intOf i).toNat)
            case atStart => exact ⟨0, 0, Nat.zero_le _, Nat.zero_le _, rfl, rfl, rfl, rfl, rfl, hst.out⟩
            case round =>
              obtain ⟨s, k, hs, hk, rfl, rfl, rfl, rfl, H⟩ := hrel
              by_cases hlt : s < n
              · obtain ⟨b1, o1, rfl, hl1, hc1⟩ := hs1.out.at (by omega)
                have e1 := (H.out.2.bel.cell (p := ⟨b1, o1 + s, none⟩) hl1).trans (hc1 s hlt)
                have hls := hle64.out s hlt
                clear hc1
                obtain ⟨d, hd⟩ : ∃ d, d = dd LL s := ⟨_, rfl⟩
                have hkd : k + d ≤ m := by
                  rw [H.out.1, hd, hm.out]
                  exact off_mono (s := s + 1) hlt
                have hd1 : LL s = 0 → d = 1 := fun h => by rw [hd]; unfold dd; rw [if_pos h]
                have hd2 : ¬ LL s = 0 → d = LL s := fun h => by rw [hd]; unfold dd; rw [if_neg h]
                have hd64 : d ≤ 64 := by rw [hd]; exact dd_le hle64.out s hlt
                obtain ⟨wo, rfl⟩ : ∃ wo : World, wo = wr := ⟨_, rfl⟩
                replace hd := hide hd
                go_upto_if 90 with (fail)
                go_cut [15] from 89 to 90 (fun v wx => v = .int .i64 d ∧ wo = wx)
                case first =>
                  by_cases hz : LL s = 0
                  · have hdd := hide (hd1 hz)
                    have hz2 : ((LL s : Int) == 0) = true := by simp [hz]
                    clear hd1 hd2 hz
                    go_wp2_with fail
                    go_meet
                    case rel => exact ⟨by rw [hdd.out]; rfl, rfl⟩
                  · have hdd := hd2 hz
                    clear hd1 hd2
                    have hz2 : ((LL s : Int) == 0) = false := by simp; omega
                    go_wp2_with fail
                    go_meet
                    case rel => exact ⟨by rw [hdd], rfl⟩
                obtain ⟨rfl, rfl⟩ := hcut
                clear hd1 hd2 e1 hls
                go_wp2_with fail
                go_loopw [11, 12, 13, 16] (fun v1 v2 v3 i wr => ∃ j kj : Nat, j ≤ d ∧ kj ≤ m ∧ i = .int .i64 j ∧ v1 = .slice (some ⟨wb.heap.size, 0, none⟩) kj m ∧ v2 = .slice (some ⟨wb.heap.size + 1, 0, none⟩) kj m ∧ v3 = .slice (some ⟨wb.heap.size + 1 + 1, 0, none⟩) kj m ∧ Hid (kj = k + j ∧ BR wb m kj kj kj (cat (fun s _ => s) (dd LL) s ++ (List.range j).map (fun _ => s)) (cat (fun _ j => j) (dd LL) s ++ (List.range j).map (fun j => j)) (cat (ent R LL n) (dd LL) s ++ (List.range j).map (ent R LL n s)) wr)) (fun _ _ _ i _ => d - (intOf i).toNat)
                case atStart => exact ⟨0, k, Nat.zero_le _, hk, rfl, rfl, rfl, rfl, rfl, by simpa using H.out.2⟩
                case round =>
                  obtain ⟨j, kj, hj, hkj, rfl, rfl, rfl, rfl, HJ⟩ := hrel
                  by_cases hjd : j < d
                  · have hroom : kj + 1 ≤ m := by rw [HJ.out.1]; omega
                    have eA : ∀ f : Nat → Nat, (List.range (j + 1)).map f = (List.range j).map f ++ [f j] := fun f => by rw [List.range_succ, List.map_append]; rfl
                    replace eA := hide eA
                    have hkj1 := hide HJ.out.1
                    replace HJ := HJ.out.2
                    obtain ⟨LA, hLA⟩ : ∃ LA, LA = cat (fun s _ => s) (dd LL) s ++ (List.range j).map (fun _ => s) := ⟨_, rfl⟩
                    obtain ⟨LO, hLO⟩ : ∃ LO, LO = cat (fun _ j => j) (dd LL) s ++ (List.range j).map (fun j => j) := ⟨_, rfl⟩
                    obtain ⟨LE, hLE⟩ : ∃ LE, LE = cat (ent R LL n) (dd LL) s ++ (List.range j).map (ent R LL n s) := ⟨_, rfl⟩
                    rw [← hLA, ← hLO, ← hLE] at HJ
                    replace hLA := hide hLA
                    replace hLO := hide hLO
                    replace hLE := hide hLE
                    replace HJ := hide HJ
                    obtain ⟨i21, hi21, _, hz21, _⟩ := info_parts Try.info21
                    obtain ⟨i40, hi40, _, hz40, _⟩ := info_parts Try.info40
                    obtain ⟨en, hen⟩ : ∃ en, en = ent R LL n s j := ⟨_, rfl⟩
                    replace hen := hide hen
                    go_wp2_with (at_builtin; refine wpList_append_fits _ rfl (.tmp 96) (.tmp 99) 35 rfl wb.heap.size 21 i21 1 Try.underlying35 hi21 hz21 wb.heap.size kj m _ rfl (HJ.out.r1.alloc _) ⟨wr.heap.size, 0, none⟩ 1 1 [.int .i32 (s : Int)] rfl rfl (news1 _ _ _) (by intro u hu; simp at hu; subst hu; rfl) hroom ?_)
                    intro wa1 own1 gr1
                    have HJ1 := hide ((HJ.out.alloc _).app1 own1 gr1)
                    clear own1 gr1
                    go_wp2_with (at_builtin; refine wpList_append_fits _ rfl (.tmp 101) (.tmp 104) 35 rfl wb.heap.size 21 i21 1 Try.underlying35 hi21 hz21 (wb.heap.size + 1) kj m _ rfl (HJ1.out.r2.alloc _) ⟨wa1.heap.size, 0, none⟩ 1 1 [.int .i32 (j : Int)] rfl rfl (news1 _ _ _) (by intro u hu; simp at hu; subst hu; rfl) hroom ?_)
                    intro wa2 own2 gr2
                    have HJ2 := hide ((HJ1.out.alloc _).app2 own2 gr2)
                    clear own2 gr2
                    have cE : Calls Try.prog 23 #[.pointer (some ⟨p, 0, none⟩), .int .i32 s, .int .i32 j, .int .u32 M] wa2 fun e w' => e = .returned (.int .u32 (en : Int)) ∧ Below wa2.heap.size wa2 w' := by
                      have eF : Fpart R LL n s = FF R LL s := if_pos hlt
                      have c := zzentry (hpt.out.below HJ2.out.bel) s j M hlt (by rw [eF]; exact Nat.le_trans (prt_le R LL s) (Nat.le_trans (off_le hle64.out s hs) (by omega))) (by omega)
                      rw [eF, hM.out] at c
                      rw [hen.out, hM.out]
                      exact c
                    go_wp2_with fail
                    refine cE.mono ?_
                    rintro e wa3 ⟨rfl, hba3⟩
                    simp only []
                    have HJ3 := hide (HJ2.out.below hba3)
                    clear cE hba3
                    go_wp2_with (at_builtin; refine wpList_append_fits _ rfl (.tmp 106) (.tmp 114) 36 rfl wb.heap.size 40 i40 1 Try.underlying36 hi40 hz40 (wb.heap.size + 1 + 1) kj m _ rfl (HJ3.out.r3.alloc _) ⟨wa3.heap.size, 0, none⟩ 1 1 [.int .u32 (en : Int)] rfl rfl (news1 _ _ _) (by intro u hu; simp at hu; subst hu; rfl) hroom ?_)
                    intro wa4 own4 gr4
                    have HJ4 := hide ((HJ3.out.alloc _).app3 own4 gr4)
                    clear own4 gr4
                    go_wp2_with fail
                    go_roundw
                    case rel =>
                      have fin : ∃ j1 kj1 : Nat, j1 ≤ d ∧ kj1 ≤ m ∧ Value.int .i64 ((j : Int) + 1) = .int .i64 j1 ∧ Value.slice (some ⟨wb.heap.size, 0, none⟩) (kj + 1) m = .slice (some ⟨wb.heap.size, 0, none⟩) kj1 m ∧ Value.slice (some ⟨wb.heap.size + 1, 0, none⟩) (kj + 1) m = .slice (some ⟨wb.heap.size + 1, 0, none⟩) kj1 m ∧ Value.slice (some ⟨wb.heap.size + 1 + 1, 0, none⟩) (kj + 1) m = .slice (some ⟨wb.heap.size + 1 + 1, 0, none⟩) kj1 m ∧ Hid (kj1 = k + j1 ∧ BR wb m kj1 kj1 kj1 (cat (fun s _ => s) (dd LL) s ++ (List.range j1).map (fun _ => s)) (cat (fun _ j => j) (dd LL) s ++ (List.range j1).map (fun j => j)) (cat (ent R LL n) (dd LL) s ++ (List.range j1).map (ent R LL n s)) wa4) := by
                        refine ⟨j + 1, kj + 1, by omega, hroom, by go_num, rfl, rfl, rfl, ?_, ?_⟩
                        · rw [hkj1.out]; omega
                        · have h4 := HJ4.out
                          rw [hen.out, hLA.out, hLO.out, hLE.out] at h4
                          rw [eA.out, eA.out, eA.out, ← List.append_assoc, ← List.append_assoc, ← List.append_assoc]
                          exact h4
                      first
                        | exact fin
                        | ((repeat apply Exists.intro); exact ⟨fin, rfl⟩)
                    case measure => simp [intOf]; omega
                  · obtain rfl : d = j := by omega
                    go_wp2_with fail
                    go_roundw
                    case rel =>
                      refine ⟨s + 1, kj, by omega, hkj, by go_num, rfl, rfl, rfl, ?_, ?_⟩
                      · rw [HJ.out.1, H.out.1, hd.out]; rfl
                      · have := HJ.out.2
                        rw [hd.out] at this
                        exact this
                    case measure => simp [intOf]; omega
              · obtain rfl : n = s := by omega
                obtain rfl : m = k := by rw [hm.out, H.out.1]
                replace H := hide H.out.2
                have hA := hide (own_sl H.out.r1)
                have hO := hide (own_sl H.out.r2)
                have hE := hide (own_row H.out.r3)
                have hptr := hide (hpt.out.below H.out.bel)
                have cW := walkers _ _ m m m (fun i => ((cat (fun s _ => s) (dd LL) n).getD i 0 : Nat)) (fun i => ((cat (fun _ j => j) (dd LL) n).getD i 0 : Nat)) wr hA.out hO.out (by omega)
                go_wp2_with fail
                refine cW.mono ?_
                rintro e wv ⟨rfl, hbv, hrv⟩
                simp only []
                have hall : ∀ k, k < m → (cat (fun s _ => s) (dd LL) n).getD k 0 ≤ 256 := fun k hk => cat_all (P := fun x => x ≤ 256) (fun s _ => s) (dd LL) n (fun s j hs _ => by omega) k (by rw [← hm.out]; exact hk)
                have hallE : ∀ k, k < m → (cat (ent R LL n) (dd LL) n).getD k 0 < (prt R LL n ++ [2147483646]).length := fun k hk => cat_all (P := fun x => x < (prt R LL n ++ [2147483646]).length) (ent R LL n) (dd LL) n (fun s j hs _ => (dest_ent R LL n s j hs (fun i hi => hrow.out s i hs hi) hn2).2) k (by rw [← hm.out]; exact hk)
                have cM := zzmove (hptr.out.below hbv) wr.heap.size (wb.heap.size + 1 + 1) m (fun i => (cat (ent R LL n) (dd LL) n).getD i 0) (fun i => (cat (fun s _ => s) (dd LL) n).getD i 0) _ hrv (rowIs_below hE.out hbv (by have := H.out.lt3; omega)) (by omega) hallE hall (by have := (hpt.out.po.lt pg rfl).2; omega) (by rw [hLl.out]; omega) (by omega) (fun i hi => port_lt R LL n hrow.out hn2 i hi) (fun i _ => by decide)
                have hbv4 := hide ((H.out.bel.trans (hbv.mono H.out.bel.size)))
                clear cW hA hO
                go_wp2_with fail
                refine cM.mono ?_
                rintro e w4 ⟨rfl, C', hmv, hpt4⟩
                simp only []
                have hbz4 : Below w2.heap.size w2 w4 := (hbz.out.trans (hbv4.out.mono hbz.out.size)).trans (hmv.but.below (fun b hb => by have := hpt4.hcg; have := hbz.out.size; omega) (Nat.le_trans hbz.out.size hbv4.out.size))
                have hrow4 : w4.rowIs (wb.heap.size + 1 + 1) 40 m (fun i => .int .u32 ((lead4 R LL n i : Nat) : Int)) := hmv.en.congr (fun i hi => by rw [if_pos hi]; rfl)
                have hF4 := countPre R LL n C' hle64.out hrow.out (fun i hi => hmv.mark i (by rw [hm.out]; exact hi))
                have hC4 := hmv.bd
                have hw4 := hide (hw2.out.trans (hbz4.mono hw2.out.size))
                have hs04 := hide (hz0.out.below hbz4 (Nat.le_refl _))
                have hs14 := hide (hz1.out.below hbz4 (Nat.le_refl _))
                have hg3 := hrow4.lt
                have hpg3 : pg < wb.heap.size := (hpt.out.po.lt pg rfl).2
                replace hrow4 := hide hrow4
                replace hF4 := hide hF4
                replace hC4 := hide hC4
                replace hpt4 := hide hpt4
                clear cM hall hallE hmv hrv hbv hbz4 hbv4 hptr hE H hst hs0 hs1 hb3 hbz hz0 hz1 hw2
                generalize wb.heap.size + 1 + 1 = g3 at hrow4 hg3 ⊢
                go_wp2_with fail
                have hmk2 := fun d (h : d ≤ 64) => run_make_row' (P := Try.prog) 36 40 (.int .u32 0) 4 Try.underlying36 Try.info40 rfl .i64 .i64 d (by omega) (by omega)
                replace hmk2 := hide hmk2
                go_loopw [18, 19, 20] (fun o v i wr => ∃ s : Nat, s ≤ n ∧ i = .int .i64 s ∧ o = .int .i64 (off LL s) ∧ v = .int .i64 (off (dd LL) s) ∧ Hid (Below w4.heap.size w4 wr)) (fun _ _ i _ => n - (intOf i).toNat)
                case atStart => exact ⟨0, Nat.zero_le _, rfl, rfl, rfl, Below.refl _ _⟩
                case round =>
                  obtain ⟨s, hs, rfl, rfl, rfl, H⟩ := hrel
                  by_cases hlt : s < n
                  · obtain ⟨b1, o1, rfl, hl1, hc1⟩ := hs14.out.at (by omega)
                    have e1 := (H.out.cell (p := ⟨b1, o1 + s, none⟩) hl1).trans (hc1 s hlt)
                    clear hc1
                    have hls := hle64.out s hlt
                    have hk1 : off (dd LL) s + dd LL s ≤ m := by rw [hm.out]; exact off_mono (s := s + 1) hlt
                    have ho1 : off LL s + LL s ≤ N := Nat.le_trans (off_mono (s := s + 1) hlt) hoN
                    have hrows : ∀ j, j < dd LL s → wr.cell? ⟨g3, off (dd LL) s + j, none⟩ = some (.int .u32 (lead R LL s j : Int)) := by
                      intro j hj
                      rw [H.out.cell (p := ⟨g3, off (dd LL) s + j, none⟩) hg3, hrow4.out.cell (by omega), lead4_at R LL n s j hlt hj hrow.out hn2]
                    have ek : off (dd LL) (s + 1) = off (dd LL) s + dd LL s := rfl
                    have eo : off LL (s + 1) = off LL s + LL s := rfl
                    by_cases hz : LL s = 0
                    · have hd1 : dd LL s = 1 := if_pos hz
                      have r0 := hrows 0 (by omega)
                      have hl0 : (lstOf R LL s).length = 0 := by
                        have : (lstOf R LL s).length ≤ LL s := lst_le _ _ _
                        omega
                      have hl1 : lead R LL s 0 = s := if_neg (by omega)
                      rw [hl1, Nat.add_zero] at r0
                      rw [hd1] at ek hk1
                      rw [hz] at e1 eo ho1
                      clear hrows hd1 hl0 hl1 hz
                      replace ek := hide ek
                      replace eo := hide eo
                      generalize off (dd LL) s = kk at *
                      generalize off LL s = oo at *
                      go_wp2_with fail
                      go_roundw
                      case rel => exact ⟨s + 1, by omega, by go_num, by rw [eo.out]; rfl, by rw [ek.out]; go_num, H.out⟩
                      case measure => simp [intOf]; omega
                    · have hd1 : dd LL s = LL s := if_neg hz
                      rw [hd1] at ek hk1 hrows
                      obtain ⟨b0, o0, rfl, hl0, hc0⟩ := hs04.out.at (by omega)
                      have hNc := hs04.out.hle
                      have hrows2 : ∀ j, j < LL s → wr.cell? ⟨b0, o0 + off LL s + j, none⟩ = some (.int .u32 (rowOf R LL s j : Int)) := by
                        intro j hj
                        rw [Nat.add_assoc, H.out.cell (p := ⟨b0, o0 + (off LL s + j), none⟩) hl0, hc0 _ (by omega)]
                        rfl
                      clear hc0
                      have hperm := hide (lead_perm R LL s)
                      replace ek := hide ek
                      replace eo := hide eo
                      clear hd1
                      generalize off (dd LL) s = kk at *
                      generalize off LL s = oo at *
                      generalize LL s = d at *
                      generalize lead R LL s = ld at *
                      generalize rowOf R LL s = ro at *
                      have hz2 : ((d : Int) == 0) = false := by simp; omega
                      have hmk := hmk2.out d hls
                      have hne1 : ¬ m = kk := by omega
                      have hne2 : ¬ c0' = oo := by omega
                      have hlg : g3 < wr.heap.size := Nat.lt_of_lt_of_le hg3 H.out.size
                      have hlb : b0 < wr.heap.size := Nat.lt_of_lt_of_le hl0 H.out.size
                      have src1 := hide (row_src2 (o := .cells (madeCells #[.int .u32 0] d) 40) hrows)
                      replace hrows2 := hide hrows2
                      clear hrows
                      go_wp2_with (refine wpList_copy_splice rfl (.tmp 145) (.tmp 151) 36 36 rfl 40 Try.underlying36 (by kernel_rfl) _ _ d d _ _ rfl rfl wr.heap.size 0 ((List.range d).map fun _ => .int .u32 0) 40 (rowIs_block (World.rowIs_made wr _ d 40)) ((List.range d).map fun j => .int .u32 (ld j : Int)) (by simp) (fun hp => ⟨rfl, _, rfl, src1.out⟩) (by simp) (by intro v hv; obtain ⟨i, _, rfl⟩ := List.mem_map.1 hv; rfl) wr.heap.size wr ((Below.refl _ _).alloc (Nat.le_refl _) _) (Nat.le_refl _) ?_)
                      intro wc1 hr1 hbc1
                      have row1 := hide (row_of_splice hr1.out)
                      have src2 := hide (row_src2 (o := .cells (madeCells #[.int .u32 0] d) 40) (w := wc1) (g := b0) (q := o0 + oo) (f := ro) (fun j hj => (hbc1.cell (p := ⟨b0, o0 + oo + j, none⟩) hlb).trans (hrows2.out j hj)))
                      replace hbc1 := hide hbc1
                      clear hr1 src1 hrows2
                      go_wp2_with (refine wpList_copy_splice rfl (.tmp 155) (.tmp 161) 36 36 rfl 40 Try.underlying36 (by kernel_rfl) _ _ d d _ _ rfl rfl wc1.heap.size 0 ((List.range d).map fun _ => .int .u32 0) 40 (rowIs_block (World.rowIs_made wc1 _ d 40)) ((List.range d).map fun j => .int .u32 (ro j : Int)) (by simp) (fun hp => ⟨rfl, _, rfl, src2.out⟩) (by simp) (by intro v hv; obtain ⟨i, _, rfl⟩ := List.mem_map.1 hv; rfl) wc1.heap.size wc1 ((Below.refl _ _).alloc (Nat.le_refl _) _) (Nat.le_refl _) ?_)
                      intro wc2 hr2 hbc2
                      have row2 := hide (row_of_splice hr2.out)
                      have hl5 : wr.heap.size < wc1.heap.size := row1.out.lt
                      have row12 := rowIs_below row1.out hbc2 hl5
                      have cS1 := zzsort wr.heap.size d ld wc2 row12 hls
                      replace hbc2 := hide hbc2
                      clear hr2 src2 hmk row12
                      go_wp2_with fail
                      refine cS1.mono ?_
                      rintro e wc3 ⟨rfl, hbut3, f1, row13, hout1⟩
                      simp only []
                      have row23 := row2.out.of_block (hbut3.block _ row2.out.lt (by omega))
                      have cS2 := zzsort wc1.heap.size d ro wc3 row23 hls
                      replace hbut3 := hide hbut3
                      replace row13 := hide row13
                      replace hout1 := hide hout1
                      clear cS1 row23
                      go_wp2_with fail
                      refine cS2.mono ?_
                      rintro e wc4 ⟨rfl, hbut4, f2, row24, hout2⟩
                      simp only []
                      have row14 := hide (row13.out.of_block (hbut4.block _ row13.out.lt (by omega)))
                      replace row24 := hide row24
                      have heq := hide (fun i hi => hout1.out.eq hout2 hperm.out i hi)
                      have hfin := hide (show Below w4.heap.size w4 wc4 from ((H.out.trans (hbc1.out.mono H.out.size)).trans (hbc2.out.mono (by have := H.out.size; omega))).trans ((hbut3.out.below (B := w4.heap.size) (fun b hb => by have := H.out.size; omega) (by have := H.out.size; have := hbc2.out.size; omega)).trans (hbut4.below (B := w4.heap.size) (fun b hb => by have := H.out.size; omega) (by have := H.out.size; have := hbc2.out.size; have := hbut3.out.size; omega))))
                      clear cS2 hbut4 hout2 hout1 hbut3 row13 hbc1 hbc2 row1 row2
                      go_wp2_with fail
                      go_loopw [24] (fun i wx => ∃ k q : Nat, k ≤ d ∧ i = .int .i64 k ∧ wx = wc4.drewN q) (fun i _ => d - (intOf i).toNat)
                      case atStart => exact ⟨0, 0, Nat.zero_le _, rfl, rfl⟩
                      case round =>
                        obtain ⟨k, q, hk, rfl, rfl⟩ := hrel
                        by_cases hkd : k < d
                        · have c1 : wc4.cell? ⟨wr.heap.size, k, none⟩ = some (.int .u32 (f1 k : Int)) := row14.out.cell hkd
                          have c2 : wc4.cell? ⟨wc1.heap.size, k, none⟩ = some (.int .u32 (f2 k : Int)) := row24.out.cell hkd
                          rw [← heq.out k hkd] at c2
                          generalize f1 k = x at c1 c2
                          go_wp2_with fail
                          go_quiet (fail)
                          go_wp2_with fail
                          go_roundw
                          case rel => exact ⟨k + 1, _, by omega, by go_num, rfl⟩
                          case measure => simp [intOf]; omega
                        · obtain rfl : d = k := by omega
                          go_wp2_with fail
                          go_roundw
                          case rel => exact ⟨s + 1, by omega, by go_num, by rw [eo.out]; go_num, by rw [ek.out]; go_num, bdrewN hfin.out _⟩
                          case measure => simp [intOf]; omega
                  · obtain rfl : n = s := by omega
                    have hmk3 := run_make_row' (P := Try.prog) 35 21 (.int .i32 0) 4 Try.underlying35 Try.info21 rfl .i64 .i64 n (by omega) (by omega)
                    have hpt5 := hide ((hpt4.out.below H.out).alloc2 (.cells (madeCells #[.int .i32 0] n) 21) (.cells (madeCells #[.int .i32 0] n) 21))
                    have ro5 := hide ((World.rowIs_made wr (.int .i32 0) n 21).alloc (.cells (madeCells #[.int .i32 0] n) 21))
                    have ri5 := hide (show ((wr.alloc (.cells (madeCells #[.int .i32 0] n) 21)).alloc (.cells (madeCells #[.int .i32 0] n) 21)).rowIs (wr.heap.size + 1) 21 n (fun _ => .int .i32 0) from by
                      have := World.rowIs_made (wr.alloc (.cells (madeCells #[.int .i32 0] n) 21)) (.int .i32 0) n 21
                      simpa only [World.size_alloc] using this)
                    have hb5 := hide (show Below w4.heap.size w4 ((wr.alloc (.cells (madeCells #[.int .i32 0] n) 21)).alloc (.cells (madeCells #[.int .i32 0] n) 21)) from (H.out.alloc H.out.size _).alloc (by simp; have := H.out.size; omega) _)
                    have cC := zzcount hpt5.out wr.heap.size (wr.heap.size + 1) ro5.out ri5.out (by omega) hn2 (lstOf R LL) hF4.out (by rw [hLl.out]; omega) (by rw [hLl.out]; omega) hC4.out
                    go_wp2_with fail
                    refine cC.mono ?_
                    rintro e w6 ⟨rfl, hcr6⟩
                    simp only []
                    have hb6 : Below w4.heap.size w4 w6 := hb5.out.trans (hcr6.but.below (fun b hb => by have := H.out.size; omega) hb5.out.size)
                    have lo6 := hcr6.o.lt
                    have li6 := hcr6.i.lt
                    have hq0 := hide (show CR ((w6.alloc (.cells (madeCells #[.int .i32 0] n) 21)).alloc (.cells (madeCells #[.int .i32 0] n) 21)) w6.heap.size (w6.heap.size + 1) n (evOf (lstOf R LL) 0) ((w6.alloc (.cells (madeCells #[.int .i32 0] n) 21)).alloc (.cells (madeCells #[.int .i32 0] n) 21)) from CR.start w6 n (lstOf R LL))
                    have hbq := hide (show Below w4.heap.size w4 ((w6.alloc (.cells (madeCells #[.int .i32 0] n) 21)).alloc (.cells (madeCells #[.int .i32 0] n) 21)) from (hb6.alloc hb6.size _).alloc (by simp; have := hb6.size; omega) _)
                    have ho6 := hide ((hcr6.o.alloc (.cells (madeCells #[.int .i32 0] n) 21)).alloc (.cells (madeCells #[.int .i32 0] n) 21))
                    have hi6 := hide ((hcr6.i.alloc (.cells (madeCells #[.int .i32 0] n) 21)).alloc (.cells (madeCells #[.int .i32 0] n) 21))
                    have hs6 := hb6.size
                    clear cC hcr6 hb6 hb5 ro5 ri5 hpt5 hF4 hC4 hpt4 hrow4 H
                    generalize wr.heap.size = og at *
                    go_wp2_with fail
                    clear hmk3
                    obtain ⟨wq, hwq⟩ : ∃ wq, wq = (w6.alloc (.cells (madeCells #[.int .i32 0] n) 21)).alloc (.cells (madeCells #[.int .i32 0] n) 21) := ⟨_, rfl⟩
                    rw [← hwq] at hq0 hbq ho6 hi6 ⊢
                    clear hwq
                    generalize hg7 : w6.heap.size = og2 at *
                    go_loopw [18, 29] (fun o i wr => ∃ s : Nat, s ≤ n ∧ i = .int .i64 s ∧ o = .int .i64 (off LL s) ∧ Hid (CR wq og2 (og2 + 1) n (evOf (lstOf R LL) s) wr)) (fun _ i _ => n - (intOf i).toNat)
                    case atStart => exact ⟨0, Nat.zero_le _, rfl, rfl, hq0.out⟩
                    case round =>
                      obtain ⟨s, hs, rfl, rfl, HC⟩ := hrel
                      by_cases hlt : s < n
                      · obtain ⟨b1, o1, rfl, hl1, hc1⟩ := hs14.out.at (by omega)
                        have hrl := hide (hc1 s hlt)
                        clear hc1
                        have hls := hle64.out s hlt
                        have ho1 : off LL s + LL s ≤ N := Nat.le_trans (off_mono (s := s + 1) hlt) hoN
                        have eo := hide (show off LL (s + 1) = off LL s + LL s from rfl)
                        have hlen := evOf_length (lstOf R LL) n (fun u hu => Nat.le_trans (lst_le _ _ _) (hle64.out u hu)) s hs
                        obtain ⟨wo, rfl⟩ : ∃ wo : World, wo = wr := ⟨_, rfl⟩
                        have bel0 := hide (show ∀ wx, ∀ es, CR wq og2 (og2 + 1) n es wx → Below w4.heap.size w4 wx from fun wx es hc => hbq.out.trans (hc.but.below (fun b hb => by omega) hbq.out.size))
                        go_wp2_with fail
                        go_loopw [30] (fun v wr => ∃ i : Nat, i ≤ LL s ∧ v = .int .i64 i ∧ Hid (CR wq og2 (og2 + 1) n (evOf (lstOf R LL) s ++ ev1 s (lst s (rowOf R LL s) i)) wr)) (fun v _ => LL s - (intOf v).toNat)
                        case atStart => exact ⟨0, Nat.zero_le _, rfl, hide (by simpa [lst, ev1] using HC.out)⟩
                        case round =>
                          obtain ⟨i, hi, rfl, HI⟩ := hrel
                          have hbw := bel0.out _ _ HI.out
                          have e1 := (hbw.cell (p := ⟨b1, o1 + s, none⟩) hl1).trans hrl.out
                          by_cases hil : i < LL s
                          · obtain ⟨b0, o0, rfl, hl0, hc0⟩ := hs04.out.at (by omega)
                            have e0 := (hbw.cell (p := ⟨b0, o0 + (off LL s + i), none⟩) hl0).trans (hc0 _ (by omega))
                            clear hc0 hbw
                            have hst := hide (ev_step s (rowOf R LL s) i)
                            have hro := hrow.out s i hlt hil
                            have hes : (evOf (lstOf R LL) s ++ ev1 s (lst s (rowOf R LL s) i)).length ≤ 20000 := by
                              have a1 := ev1_length s (lst s (rowOf R LL s) i)
                              have a2 := lst_le s (rowOf R LL s) i
                              rw [List.length_append]
                              omega
                            obtain ⟨tt, htt⟩ : ∃ tt, tt = rowOf R LL s i := ⟨_, rfl⟩
                            have e0' : wr.cell? ⟨b0, o0 + (off LL s + i), none⟩ = some (.int .u32 (tt : Int)) := by rw [htt]; exact e0
                            clear e0
                            have htr : tt < 4294967296 := by rw [htt]; exact hR.out _ (by omega)
                            rw [← htt] at hro hst
                            replace htt := hide htt
                            have z1 := HI.out.o.cell hlt
                            have fz1 := HI.out.o.frozen
                            have fz2 := HI.out.i.frozen
                            by_cases hts : s = tt
                            · rw [if_pos (.inl hts.symm), List.append_nil] at hst
                              subst hts
                              clear z1 fz1 fz2 hro
                              go_wp2_with fail
                              go_roundw
                              case rel => exact ⟨i + 1, by omega, by go_num, hide (by rw [hst.out]; exact HI.out)⟩
                              case measure => simp [intOf]; omega
                            · have hts2 : ((tt : Int) == (s : Int)) = false := by simp; omega
                              have hts3 : ((tt : Int) != (s : Int)) = true := by simpa using hts2
                              by_cases hte : tt = elim_
                              · rw [if_pos (.inr hte), List.append_nil] at hst
                                have hte2 : ((tt : Int) == 2147483647) = true := by rw [hte]; rfl
                                have hte3 : ((tt : Int) != 2147483647) = false := by rw [hte]; rfl
                                clear z1 fz1 fz2 hro hte
                                go_wp2_with fail
                                go_roundw
                                case rel => exact ⟨i + 1, by omega, by go_num, hide (by rw [hst.out]; exact HI.out)⟩
                                case measure => simp [intOf]; omega
                              · have htn : tt < n := by omega
                                rw [if_neg (by omega)] at hst
                                have hte2 : ((tt : Int) == 2147483647) = false := by unfold elim_ at hte; simp; omega
                                have hte3 : ((tt : Int) != 2147483647) = true := by simpa using hte2
                                have z2 := HI.out.i.cell htn
                                have bA := (cnt_le (evOf (lstOf R LL) s ++ ev1 s (lst s (rowOf R LL s) i)) s).1
                                have bB := (cnt_le (evOf (lstOf R LL) s ++ ev1 s (lst s (rowOf R LL s) i)) tt).2
                                have stp := hide (HI.out.step (by omega) s tt)
                                generalize cntA (evOf (lstOf R LL) s ++ ev1 s (lst s (rowOf R LL s) i)) s = ca at *
                                generalize cntB (evOf (lstOf R LL) s ++ ev1 s (lst s (rowOf R LL s) i)) tt = cb at *
                                go_wp2_with fail
                                go_roundw
                                case rel => exact ⟨i + 1, by omega, by go_num, hide (by rw [hst.out, ← List.append_assoc]; exact stp.out)⟩
                                case measure => simp [intOf]; omega
                          · obtain rfl : LL s = i := by omega
                            go_wp2_with fail
                            go_roundw
                            case rel => exact ⟨s + 1, by omega, by go_num, by rw [eo.out]; go_num, HI.out⟩
                            case measure => simp [intOf]; omega
                      · obtain rfl : n = s := by omega
                        have hoq := hide (ho6.out.of_block (HC.out.but.block og ho6.out.lt (by omega)))
                        have hiq := hide (hi6.out.of_block (HC.out.but.block (og + 1) hi6.out.lt (by omega)))
                        have hend := hide (hw4.out.trans ((hbq.out.trans (HC.out.but.below (fun b hb => by omega) hbq.out.size)).mono hw4.out.size))
                        obtain ⟨wl, rfl⟩ : ∃ wl : World, wl = wr := ⟨_, rfl⟩
                        go_wp2_with fail
                        go_loopw [32] (fun v wx => ∃ k q : Nat, k ≤ n ∧ v = .int .i64 k ∧ wx = wl.drewN q) (fun v _ => n - (intOf v).toNat)
                        case atStart => exact ⟨0, 0, Nat.zero_le _, rfl, rfl⟩
                        case round =>
                          obtain ⟨k, q, hk, rfl, rfl⟩ := hrel
                          by_cases hkn : k < n
                          · have c1 := hoq.out.cell hkn
                            have c2 := hiq.out.cell hkn
                            have c3 := HC.out.o.cell hkn
                            have c4 := HC.out.i.cell hkn
                            generalize cntA (evOf (lstOf R LL) n) k = x at c1 c3
                            generalize cntB (evOf (lstOf R LL) n) k = y at c2 c4
                            go_wp2_with fail
                            go_quiet (fail)
                            go_wp2_with fail
                            go_roundw
                            case rel => exact ⟨k + 1, _, by omega, by go_num, rfl⟩
                            case measure => simp [intOf]; omega
                          · go_wp2_with fail
                            go_ret
                            exact ⟨rfl, bdrewN hend.out _⟩

end Go.Proofs.Qxb6003686a
