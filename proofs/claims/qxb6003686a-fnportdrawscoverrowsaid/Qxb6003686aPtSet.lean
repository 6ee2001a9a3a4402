/-
  THE CONTRACT OF set.
-/
import Derived.Test.Qxb6003686aPtNew
namespace Go.Proofs.Qxb6003686a
open Go.RowKit

structure SetR (B : Nat) (w0 : World) (p : Nat) (sa : Option Addr) (n : Nat) (cv : Value) (F : Nat → Nat × Nat × Nat) (q rg len : Nat) (r : Nat → Nat) (from_ : Nat) (L : List Nat) (pa : Option Addr) (pcap : Nat) (wr : World) : Prop where
  bel : Below B w0 wr
  pb : PB B wr p sa n pa pcap cv F L
  hq : wr.rowIs q 71 3 (scell (fun _ => (from_, 0, len)))
  row : wr.rowIs rg 40 len (fun j => .int .u32 (r j : Int))
  ne : (Value.slice pa L.length pcap).ownBlock ≠ some rg
  sne : ∀ sg, sa = some ⟨sg, 0, none⟩ → sg ≠ q

theorem pvals_length (L : List Nat) : (pvals L).length = L.length := by simp [pvals]
theorem pvals_snoc (L : List Nat) (e : Nat) : pvals (L ++ [e]) = pvals L ++ [.int .u32 (e : Int)] := by simp [pvals]

theorem tset1 (sa : Option Addr) (n : Nat) (pv pv' cv : Value) (m : Nat) : ∀ i, i < m → (if i = 1 then pv' else tcell sa n pv cv i) = tcell sa n pv' cv i := by
  intro i _
  unfold tcell
  by_cases h1 : i = 1
  · subst h1; simp
  · simp [h1]

/-- An own row of one type, a row of another: two blocks. -/
theorem own_ne_row {w : World} {B e e' g m k : Nat} {v : Value} {xs : List Value} {f : Nat → Value} (h : w.ownsRow B e 1 v m xs) (hr : w.rowIs g e' k f) (he : e ≠ e') : v.ownBlock ≠ some g := by
  intro hv
  rcases h.2 with ⟨h', _⟩ | ⟨g', cap', cur, h', _, hg, _⟩
  · rw [h'] at hv; cases hv
  · rw [h'] at hv
    simp only [Value.ownBlock, Option.some.injEq] at hv
    subst hv
    obtain ⟨c, hc, _⟩ := hr
    rw [hg] at hc
    simp at hc
    exact he hc.2

/-- A store into another block. -/
theorem own_setAway {w : World} {B e z m : Nat} {v : Value} {xs : List Value} (h : w.ownsRow B e z v m xs) {a : Addr} (ha : v.ownBlock ≠ some a.block) (u : Value) : (w.setCell a u).ownsRow B e z v m xs := by
  refine ⟨h.1, ?_⟩
  rcases h.2 with h' | ⟨g', cap', cur, h', hb', hg', rest⟩
  · exact .inl h'
  · refine .inr ⟨g', cap', cur, h', hb', ?_, rest⟩
    rw [h'] at ha
    simp only [Value.ownBlock, ne_eq, Option.some.injEq] at ha
    rw [Below.heap_setCell _ _ _ _ ha]
    exact hg'

theorem SetR.step {B : Nat} {w0 : World} {p : Nat} {sa : Option Addr} {n : Nat} {cv : Value} {F : Nat → Nat × Nat × Nat} {q rg len : Nat} {r : Nat → Nat} {from_ : Nat} {L : List Nat} {pa : Option Addr} {pcap : Nat} {wr : World}
    (h : SetR B w0 p sa n cv F q rg len r from_ L pa pcap wr) (hB : B ≤ w0.heap.size) (o : Obj) {w1 : World} {g cap e : Nat} (own : w1.ownsRow B 40 1 (.slice (some ⟨g, 0, none⟩) (L.length + 1) cap) (L.length + 1) (pvals L ++ [.int .u32 (e : Int)]))
    (gr : (wr.alloc o).grownBy w1 (Value.slice pa L.length pcap).ownBlock) (hat : (Value.slice pa L.length pcap).ownBlock = some g ∨ g = wr.heap.size + 1) :
    SetR B w0 p sa n cv F q rg len r from_ (L ++ [e]) (some ⟨g, 0, none⟩) cap (w1.setCell ⟨p, 1, none⟩ (.slice (some ⟨g, 0, none⟩) (L.length + 1) cap)) := by
  have hsz := h.bel.size
  have hgr : ∀ k, k < wr.heap.size → some k ≠ (Value.slice pa L.length pcap).ownBlock → w1.heap[k]? = wr.heap[k]? := fun k hk hne => (gr.block k (by simp; omega) hne).trans (Below.heap_alloc _ _ _ hk)
  have np := own_ne_row h.pb.po h.pb.tb (by decide)
  have nq := own_ne_row h.pb.po h.hq (by decide)
  have tb1 := h.pb.tb.of_block (hgr p h.pb.tb.lt (fun e => np e.symm))
  have hq1 := h.hq.of_block (hgr q h.hq.lt (fun e => nq e.symm))
  have row1 := h.row.of_block (hgr rg h.row.lt (fun e => h.ne e.symm))
  have ep : (L ++ [e]).length = L.length + 1 := by simp
  refine ⟨?_, ⟨h.pb.hp, ?_, ?_, ?_⟩, ?_, ?_, ?_, h.sne⟩
  · exact ((h.bel.alloc (by omega) o).grown gr (by simp; omega) (fun k hk => (h.pb.po.lt k hk).1)).setCell h.pb.hp _
  · rw [ep]
    exact (tb1.set 1 _).congr (tset1 _ _ _ _ _ _)
  · refine h.pb.sh.of_but (fun sg c hc => ?_)
    have hlt : sg < wr.heap.size := by
      rcases Nat.lt_or_ge sg wr.heap.size with hlt | hge
      · exact hlt
      · rw [Array.getElem?_eq_none hge] at hc; cases hc
    have hr : wr.rowIs sg 71 c.size (fun i => c[i]!) := ⟨c, hc, rfl, fun i hi => by simp [hi]⟩
    have hne : sg ≠ p := rowIs_ne hr h.pb.tb (by decide)
    rw [Below.heap_setCell _ _ _ _ hne]
    exact hgr sg hlt (fun e => (own_ne_row h.pb.po hr (by decide)) e.symm)
  · rw [ep, pvals_snoc]
    have n1 := own_ne_row own tb1 (by decide)
    have hgp : g ≠ p := by simpa [Value.ownBlock] using n1
    refine ⟨own.1, ?_⟩
    rcases own.2 with ⟨h', _⟩ | ⟨g', cap', cur, h', hb', hg', rest⟩
    · cases h'
    · refine .inr ⟨g', cap', cur, h', hb', ?_, rest⟩
      simp only [Value.slice.injEq, Option.some.injEq, Addr.mk.injEq, and_true] at h'
      rw [Below.heap_setCell _ _ _ _ (by simp; omega)]
      exact hg'
  · exact hq1.setOther (rowIs_ne hq1 tb1 (by decide)) _
  · exact row1.setOther (rowIs_ne row1 tb1 (by decide)) _
  · have := h.row.lt
    rcases hat with hat | rfl
    · intro e
      apply h.ne
      rw [hat]
      simpa [Value.ownBlock] using e
    · simp only [Value.ownBlock, ne_eq, Option.some.injEq]
      omega

/-- The first k entries of a row that lead elsewhere. -/
def lst (s : Nat) (r : Nat → Nat) (k : Nat) : List Nat := ((List.range k).map r).filter (fun e => e != s)
def upd (F : Nat → Nat × Nat × Nat) (s : Nat) (x : Nat × Nat × Nat) : Nat → Nat × Nat × Nat := fun t => if t = s then x else F t

theorem lst_succ (s : Nat) (r : Nat → Nat) (k : Nat) : lst s r (k + 1) = lst s r k ++ (if r k = s then [] else [r k]) := by
  unfold lst
  rw [List.range_succ, List.map_append, List.filter_append]
  by_cases h : r k = s <;> simp [h]
theorem lst_le (s : Nat) (r : Nat → Nat) (k : Nat) : (lst s r k).length ≤ k := by
  unfold lst
  exact Nat.le_trans (List.length_filter_le _ _) (by simp)

theorem SetR.start {B : Nat} {w : World} {p : Nat} {sa : Option Addr} {n : Nat} {cv : Value} {F : Nat → Nat × Nat × Nat} {rg len : Nat} {r : Nat → Nat} {s : Nat} {L : List Nat} {pa : Option Addr} {pcap : Nat}
    (hB : B ≤ w.heap.size) (h : PB B w p sa n pa pcap cv F L) (hr : w.rowIs rg 40 len (fun j => .int .u32 (r j : Int))) (hrg : (Value.slice pa L.length pcap).ownBlock ≠ some rg) :
    SetR B w p sa n cv F w.heap.size rg len r L.length (L ++ lst s r 0) pa pcap (w.alloc (.cells #[.int .u32 L.length, .int .i32 0, .int .i32 len] 71)) := by
  have e0 : L ++ lst s r 0 = L := by simp [lst]
  rw [e0]
  refine ⟨(Below.refl _ _).alloc hB _, ⟨h.hp, h.tb.alloc _, h.sh.of_but (fun sg c hc => ?_), h.po.alloc _⟩, ?_, hr.alloc _, hrg, ?_⟩
  · apply Below.heap_alloc
    rcases Nat.lt_or_ge sg w.heap.size with hlt | hge
    · exact hlt
    · rw [Array.getElem?_eq_none hge] at hc; cases hc
  · refine ⟨_, heap_alloc_new _ _, rfl, fun i hi => ?_⟩
    match i, hi with
    | 0, _ => rfl
    | 1, _ => rfl
    | 2, _ => rfl
  · intro sg hsg
    rcases h.sh with ⟨_, h'⟩ | ⟨sg', h', _, hrow⟩
    · rw [h'] at hsg; cases hsg
    · rw [h'] at hsg
      simp at hsg
      have := hrow.lt
      omega

theorem news1 (w : World) (v : Value) (e : TypeId) : ∀ j u, [v][j]? = some u → (w.alloc (.cells #[v] e)).cell? ((⟨w.heap.size, 0, none⟩ : Addr).add j) = some u := by
  intro j u hu
  cases j with
  | zero =>
    simp at hu
    subst hu
    rw [Addr.add_lit]
    unfold World.cell?
    simp only [heap_alloc_new]
    rfl
  | succ j => simp at hu

theorem scell_set3 (F : Nat → Nat × Nat × Nat) (s a b c m : Nat) : ∀ i, i < m → (if i = s * 3 + 2 then .int .i32 (c : Int) else if i = s * 3 + 1 then .int .i32 (b : Int) else if i = s * 3 then .int .u32 (a : Int) else scell F i) = scell (upd F s (a, b, c)) i := by
  intro i _
  unfold scell upd
  by_cases h2 : i = s * 3 + 2
  · subst h2
    have e1 : (s * 3 + 2) % 3 = 2 := by omega
    have e2 : (s * 3 + 2) / 3 = s := by omega
    simp [e1, e2]
  · by_cases h1 : i = s * 3 + 1
    · subst h1
      have e1 : (s * 3 + 1) % 3 = 1 := by omega
      have e2 : (s * 3 + 1) / 3 = s := by omega
      simp [e1, e2]
    · by_cases h0 : i = s * 3
      · subst h0
        have e1 : (s * 3) % 3 = 0 := by omega
        have e2 : (s * 3) / 3 = s := by omega
        simp [e1, e2]
      · have e2 : i / 3 ≠ s := by omega
        simp [h0, h1, h2, e2]

theorem SetR.done {B : Nat} {w : World} {p : Nat} {sg n : Nat} {cv : Value} {F : Nat → Nat × Nat × Nat} {q rg k : Nat} {r : Nat → Nat} {L : List Nat} {f s m : Nat} {pa : Option Addr} {pcap : Nat} {wr : World}
    (h : SetR B w p (some ⟨sg, 0, none⟩) n cv F q rg k r f L pa pcap wr) (hne : sg ≠ q) (hsr : wr.rowIs sg 71 (n * 3) (scell F)) (hq : B ≤ q) (hsg : B ≤ sg) :
    Below B w ((((wr.setCell ⟨q, 1, none⟩ (.int .i32 (m : Int))).setCell ⟨sg, s * 3, none⟩ (.int .u32 (f : Int))).setCell ⟨sg, s * 3 + 1, none⟩ (.int .i32 (m : Int))).setCell ⟨sg, s * 3 + 2, none⟩ (.int .i32 (k : Int))).drew.drew ∧
      ∃ pa' pcap', PB B ((((wr.setCell ⟨q, 1, none⟩ (.int .i32 (m : Int))).setCell ⟨sg, s * 3, none⟩ (.int .u32 (f : Int))).setCell ⟨sg, s * 3 + 1, none⟩ (.int .i32 (m : Int))).setCell ⟨sg, s * 3 + 2, none⟩ (.int .i32 (k : Int))).drew.drew p (some ⟨sg, 0, none⟩) n pa' pcap' cv (upd F s (f, m, k)) L := by
  have n1 := rowIs_ne h.pb.tb h.hq (by decide)
  have n2 := rowIs_ne h.pb.tb hsr (by decide)
  have m1 := own_ne_row h.pb.po h.hq (by decide)
  have m2 := own_ne_row h.pb.po hsr (by decide)
  refine ⟨((((h.bel.setCell hq _).setCell hsg _).setCell hsg _).setCell hsg _).drew.drew, pa, pcap, h.pb.hp, ((((h.pb.tb.setOther n1 _).setOther n2 _).setOther n2 _).setOther n2 _).drew.drew, .inr ⟨sg, rfl, hsg, ?_⟩, ?_⟩
  · exact (((((hsr.setOther hne _).set (s * 3) _).set (s * 3 + 1) _).set (s * 3 + 2) _).congr (scell_set3 F s f m k _)).drew.drew
  · exact own_setAway (own_setAway (own_setAway (own_setAway h.pb.po m1 _) m2 _) m2 _) m2 _

set_option maxRecDepth 100000 in
set_option maxHeartbeats 4000000 in
theorem set_ (B : Nat) (w : World) (p : Nat) (sa : Option Addr) (n : Nat) (pa : Option Addr) (pcap : Nat) (cv : Value) (F : Nat → Nat × Nat × Nat) (L : List Nat) (s rg len : Nat) (r : Nat → Nat)
    (hB : B ≤ w.heap.size) (h : PB B w p sa n pa pcap cv F L) (hs : s < n) (hn : n ≤ 256) (hlen : len ≤ 64) (hL : L.length ≤ 16384) (hr : w.rowIs rg 40 len (fun j => .int .u32 (r j : Int))) (hrr : ∀ j, j < len → r j < 4294967296)
    (hrg : (Value.slice pa L.length pcap).ownBlock ≠ some rg) :
    Calls Try.prog 43 #[.pointer (some ⟨p, 0, none⟩), .int .i32 s, .slice (some ⟨rg, 0, none⟩) len len] w fun e w' => e = .returned (.tuple #[]) ∧ Below B w w' ∧
      ∃ pa' pcap', PB B w' p sa n pa' pcap' cv (upd F s (L.length, (lst s r len).length, len)) (L ++ lst s r len) := by
  obtain ⟨i0, hi, hz0, hz1, hz2⟩ := info_parts Try.info40
  have x1 := h.tb.cell (i := 1) (by omega)
  simp only [tcell, Nat.one_ne_zero, if_false, if_true] at x1
  have h := hide h
  have hrr := hide hrr
  have hr := hide hr
  have hrg := hide hrg
  go_enter Try.func43, Try.ntmps43
  go_wp2_with fail
  go_loopw [21] (fun i wr => ∃ (k : Nat) (pa1 : Option Addr) (pcap1 : Nat) (Lk : List Nat), k ≤ len ∧ i = .int .i64 k ∧ Hid (Lk = L ++ lst s r k ∧ SetR B w p sa n cv F w.heap.size rg len r L.length Lk pa1 pcap1 wr)) (fun i _ => len - (intOf i).toNat)
  case atStart =>
    exact ⟨0, pa, pcap, _, Nat.zero_le _, rfl, rfl, SetR.start hB h.out hr.out hrg.out⟩
  case round =>
    obtain ⟨k, pa1, pcap1, Lk, hk, rfl, H⟩ := hrel
    have hlk := lst_le s r k
    have hlen1 : Lk.length ≤ 20000 := by rw [H.out.1]; simp; omega
    have hB1 : B ≤ wr.heap.size := Nat.le_trans hB H.out.2.bel.size
    have x1 := H.out.2.pb.tb.cell (i := 1) (by omega)
    simp only [tcell, Nat.one_ne_zero, if_false, if_true] at x1
    have f1 := H.out.2.pb.tb.frozen 1
    by_cases hlt : k < len
    · have e0 := H.out.2.row.cell hlt
      have hrk := hrr.out k hlt
      have eL := hide (lst_succ s r k)
      by_cases he : r k = s
      · have hb : ((r k : Int) == (s : Int)) = true := by simp [he]
        go_wp2_with fail
        go_roundw
        case rel =>
          refine ⟨k + 1, pa1, pcap1, Lk, by omega, by go_num, ?_, H.out.2⟩
          rw [eL.out, if_pos he, List.append_nil]
          exact H.out.1
        case measure => simp [intOf]; omega
      · have hb : ((r k : Int) == (s : Int)) = false := by simp; omega
        have hpl := H.out.2.pb.tb.lt
        have npb := own_ne_row H.out.2.pb.po H.out.2.pb.tb (by decide)
        have hpo := hide (H.out.2.pb.po)
        go_wp2_with (at_builtin; refine wpList_append_lies _ rfl (.tmp 33) (.tmp 35) 36 rfl B 40 i0 _ 1 4 Try.underlying36 hi hz0 hz1 hz2 rfl (by decide) _ _ _ rfl (hpo.out.alloc _) ⟨wr.heap.size, 0, none⟩ 1 1 [.int .u32 (r k : Int)] rfl rfl (news1 wr _ _) (by intro u hu; simp at hu; subst hu; rfl) (by decide) (by unfold maxLen; omega) (by omega) (by simp; omega) (wr.heap.size + 1) (by simp) ?_)
        intro g cap w1 own1 gr1 hat1 hlt1
        have y1 : w1.cell? ⟨p, 1, none⟩ = some (.slice pa1 Lk.length pcap1) := gr1.cell (acell x1) (fun e => npb e.symm)
        have y2 : w1.frozen? ⟨p, 1, none⟩ = false := (World.frozen?_of_block (gr1.block p (by simp; omega) (fun e => npb e.symm))).trans (afroz hpl f1)
        have st := hide (H.out.2.step hB _ own1 gr1 hat1)
        clear own1 gr1 hat1 hlt1 x1 f1 e0 npb
        go_wp2_with fail
        go_roundw
        case rel =>
          refine ⟨k + 1, _, cap, Lk ++ [r k], by omega, by go_num, ?_, st.out⟩
          rw [eL.out, if_neg he, H.out.1, List.append_assoc]
        case measure => simp [intOf]; omega
    · obtain rfl : k = len := by omega
      obtain ⟨m, hm⟩ : ∃ m, m = (lst s r k).length := ⟨_, rfl⟩
      have hLm : Lk.length = L.length + m := by rw [H.out.1, List.length_append, hm]
      have hmk : m ≤ 64 := by omega
      have x0 := H.out.2.pb.tb.cell (i := 0) (by omega)
      simp only [tcell, if_true] at x0
      have q0 := H.out.2.hq.cell (i := 0) (by omega)
      have q1 := H.out.2.hq.cell (i := 1) (by omega)
      have q2 := H.out.2.hq.cell (i := 2) (by omega)
      simp [scell] at q0 q1 q2
      have fq := H.out.2.hq.frozen
      rcases H.out.2.pb.sh with ⟨h', _⟩ | ⟨sg, hsa, hsg, hsr⟩
      · omega
      subst hsa
      have nqs : sg ≠ w.heap.size := H.out.2.sne sg rfl
      have s0 := hsr.cell (i := s * 3) (by omega)
      have s1 := hsr.cell (i := s * 3 + 1) (by omega)
      have s2 := hsr.cell (i := s * 3 + 2) (by omega)
      have fs := hsr.frozen
      have hsr := hide hsr
      rw [hLm] at x1
      generalize scell F (s * 3) = z0 at s0
      generalize scell F (s * 3 + 1) = z1 at s1
      generalize scell F (s * 3 + 2) = z2 at s2
      have hmm := hide hm
      clear hlk hm
      go_wp2_with fail
      go_region
      go_wp2_with fail
      go_region
      go_wp2_with fail
      go_end0
      have eM : ((L.length : Int) + m - L.length) = (m : Int) := by omega
      rw [eM, ← hmm.out, ← H.out.1]
      exact ⟨rfl, H.out.2.done nqs hsr.out hB hsg⟩

set_option maxRecDepth 100000 in
theorem zzset (B : Nat) (w : World) (p : Nat) (sa : Option Addr) (n : Nat) (pa : Option Addr) (pcap : Nat) (cv : Value) (F : Nat → Nat × Nat × Nat) (L : List Nat) (s rg len : Nat) (r : Nat → Nat)
    (hB : B ≤ w.heap.size) (h : PB B w p sa n pa pcap cv F L) (hs : s < n) (hn : n ≤ 256) (hlen : len ≤ 64) (hL : L.length ≤ 16384) (hr : w.rowIs rg 40 len (fun j => .int .u32 (r j : Int))) (hrr : ∀ j, j < len → r j < 4294967296)
    (hrg : (Value.slice pa L.length pcap).ownBlock ≠ some rg) :
    Calls Try.prog 32 #[.pointer (some ⟨p, 0, none⟩), .int .i32 s, .slice (some ⟨rg, 0, none⟩) len len] w fun e w' => e = .returned (.tuple #[]) ∧ Below B w w' ∧
      ∃ pa' pcap', PB B w' p sa n pa' pcap' cv (upd F s (L.length, (lst s r len).length, len)) (L ++ lst s r len) := by
  have c := set_ B w p sa n pa pcap cv F L s rg len r hB h hs hn hlen hL hr hrr hrg
  clear h hr hrr hrg
  go_enter Try.func32, Try.ntmps32
  go_wp2_with fail
  refine c.mono ?_
  rintro e w' ⟨rfl, hw⟩
  simp only []
  have hw := hide hw
  go_wp2_with fail
  go_end0
  exact ⟨rfl, hw.out⟩

set_option maxRecDepth 100000 in
theorem zzreset (n : Nat) (hm : n ≤ 1048576) (w : World) (p : Nat) (hp : w.rowIs p 69 4 (tcell none 0 (.slice none 0 0) (.slice none 0 0))) :
    Calls Try.prog 31 #[.pointer (some ⟨p, 0, none⟩), .int .i64 n] w fun e w' => e = .returned (.tuple #[]) ∧ But (fun b => b = p) w w' ∧ ∃ sa, w'.rowIs p 69 4 (tcell sa n (.slice none 0 0) (.slice none 0 0)) ∧ Shp w.heap.size w' sa n shp0 := by
  have c := reset n hm w p hp
  clear hp
  go_enter Try.func31, Try.ntmps31
  go_wp2_with fail
  refine c.mono ?_
  rintro e w' ⟨rfl, hw⟩
  simp only []
  have hw := hide hw
  go_wp2_with fail
  go_end0
  exact ⟨rfl, hw.out⟩

end Go.Proofs.Qxb6003686a
