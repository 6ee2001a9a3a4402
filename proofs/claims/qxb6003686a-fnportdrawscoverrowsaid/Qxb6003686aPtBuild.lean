/-
  THE CONTRACT OF zzBuildTable.
-/
import Derived.Test.Qxb6003686aPtSeal
namespace Go.Proofs.Qxb6003686a
open Go.RowKit

/-- Where slot s's row begins. -/
def off (LL : Nat → Nat) : Nat → Nat
  | 0 => 0
  | s + 1 => off LL s + LL s
def rowOf (R LL : Nat → Nat) (s j : Nat) : Nat := R (off LL s + j)
def lstOf (R LL : Nat → Nat) (s : Nat) : List Nat := lst s (rowOf R LL s) (LL s)
def prt (R LL : Nat → Nat) : Nat → List Nat
  | 0 => []
  | s + 1 => prt R LL s ++ lstOf R LL s
def FF (R LL : Nat → Nat) (s : Nat) : Nat × Nat × Nat := ((prt R LL s).length, (lstOf R LL s).length, LL s)
def Fpart (R LL : Nat → Nat) (s t : Nat) : Nat × Nat × Nat := if t < s then FF R LL t else (0, 0, 0)

theorem Fpart_step (R LL : Nat → Nat) (s : Nat) : upd (Fpart R LL s) s (FF R LL s) = Fpart R LL (s + 1) := by
  funext t
  unfold upd Fpart
  by_cases h : t = s
  · subst h; simp
  · rw [if_neg h]
    by_cases h2 : t < s
    · rw [if_pos h2, if_pos (by omega)]
    · rw [if_neg h2, if_neg (by omega)]
theorem Fpart_zero (R LL : Nat → Nat) : Fpart R LL 0 = shp0 := by
  funext t
  simp [Fpart, shp0]
theorem off_le {LL : Nat → Nat} {n : Nat} (h : ∀ s, s < n → LL s ≤ 64) : ∀ s, s ≤ n → off LL s ≤ 64 * s
  | 0, _ => by simp [off]
  | s + 1, hs => by
    have := off_le h s (by omega)
    have := h s (by omega)
    simp only [off]; omega
theorem off_mono {LL : Nat → Nat} {s t : Nat} (h : s ≤ t) : off LL s ≤ off LL t := by
  induction t with
  | zero => have : s = 0 := by omega
            subst this; exact Nat.le_refl _
  | succ t ih =>
    by_cases e : s = t + 1
    · subst e; exact Nat.le_refl _
    · have := ih (by omega)
      simp only [off]; omega
theorem prt_le (R LL : Nat → Nat) : ∀ s, (prt R LL s).length ≤ off LL s
  | 0 => by simp [prt, off]
  | s + 1 => by
    have := prt_le R LL s
    have := lst_le s (rowOf R LL s) (LL s)
    simp only [prt, off, List.length_append, lstOf]; omega

theorem PB.below {B : Nat} {w w' : World} {p : Nat} {sa : Option Addr} {n : Nat} {pa : Option Addr} {pcap : Nat} {cv : Value} {F : Nat → Nat × Nat × Nat} {L : List Nat} (h : PB B w p sa n pa pcap cv F L) (hb : Below w.heap.size w w') : PB B w' p sa n pa pcap cv F L := by
  refine ⟨h.hp, rowIs_below h.tb hb h.tb.lt, ?_, ?_⟩
  · refine h.sh.of_but (fun sg c hc => hb.block sg ?_)
    rcases Nat.lt_or_ge sg w.heap.size with hlt | hge
    · exact hlt
    · rw [Array.getElem?_eq_none hge] at hc; cases hc
  · refine ⟨h.po.1, ?_⟩
    rcases h.po.2 with h' | ⟨g', cap', cur, h', hb', hg', rest⟩
    · exact .inl h'
    · refine .inr ⟨g', cap', cur, h', hb', ?_, rest⟩
      rw [hb.block g' ((h.po.lt g' (by rw [h']; rfl)).2)]
      exact hg'

theorem row_src {w wr : World} {o : Obj} {a0 : Option Addr} {N c0 d q : Nat} {R : Nat → Nat} (h : Sl w a0 N c0 (fun i => .int .u32 (R i : Int))) (hb : Below w.heap.size w wr) (hq : q + d ≤ N) :
    ∀ sp : Option Addr, (sp = a0.map (fun x => x.add q) ∨ d = 0) → 0 < ((List.range d).map fun j => Value.int .u32 (R (q + j) : Int)).length → ∃ ad, sp = some ad ∧ ∀ j v, ((List.range d).map fun j => Value.int .u32 (R (q + j) : Int))[j]? = some v → (wr.alloc o).cell? (ad.add j) = some v := by
  intro sp hsp hp
  have hd : 0 < d := by simpa using hp
  rcases hsp with rfl | h'
  · obtain ⟨b, o', rfl, hlt, hc⟩ := h.at (by omega)
    refine ⟨_, rfl, fun j v hv => ?_⟩
    have hj : j < d := by
      have := (List.getElem?_eq_some_iff.1 hv).1
      simpa using this
    have hv' : v = .int .u32 (R (q + j) : Int) := by simpa [hj] using hv.symm
    subst hv'
    show (wr.alloc o).cell? ((Addr.add ⟨b, o', none⟩ q).add j) = _
    rw [Addr.add_lit, Addr.add_lit, Nat.add_assoc]
    exact acell ((hb.cell (p := ⟨b, o' + (q + j), none⟩) hlt).trans (hc (q + j) (by omega)))
  · omega

theorem row3_of {w3 : World} {g d q s : Nat} {R LL : Nat → Nat} (hr : w3.heap[g]? = some (.cells (splice ((List.range d).map fun _ => Value.int .u32 0) 0 ((List.range d).map fun j => Value.int .u32 (R (q + j) : Int))).toArray 40 (0, 0))) (hq : q = off LL s) :
    w3.rowIs g 40 d (fun j => .int .u32 (rowOf R LL s j : Int)) := by
  rw [splice_all _ _ (by simp)] at hr
  refine rowIs_list hr (by simp) (fun i hi => ?_)
  simp [hi, rowOf, hq]

structure BT (B : Nat) (w : World) (p : Nat) (sa : Option Addr) (n : Nat) (R LL : Nat → Nat) (s : Nat) (pa : Option Addr) (pcap : Nat) (wr : World) : Prop where
  bel : Below B w wr
  pb : PB B wr p sa n pa pcap (.slice none 0 0) (Fpart R LL s) (prt R LL s)

set_option maxRecDepth 100000 in
set_option maxHeartbeats 1000000 in
theorem buildTable (a0 a1 : Option Addr) (N c0 n c1 : Nat) (R LL : Nat → Nat) (w : World) (h0 : Sl w a0 N c0 (fun i => .int .u32 (R i : Int))) (h1 : Sl w a1 n c1 (fun i => .int .i64 (LL i : Int))) (hn : n ≤ 256) (hLL : ∀ s, s < n → LL s ≤ 64) (hN : off LL n ≤ N) (hNm : N ≤ 1048576)
    (hR : ∀ i, i < N → R i < 4294967296) :
    Calls Try.prog 21 #[.slice a0 N c0, .slice a1 n c1] w fun e w' => ∃ p sa pg pcap cg, e = .returned (.pointer (some ⟨p, 0, none⟩)) ∧ Below w.heap.size w w' ∧
      PT w.heap.size w' p sa n pg pcap cg (Fpart R LL n) (prt R LL n ++ [2147483646]) (((prt R LL n).length + 1 + 63) / 64) (fun _ => 0) := by
  have cN := newTable w
  replace h0 := hide h0
  replace h1 := hide h1
  replace hLL := hide hLL
  replace hR := hide hR
  go_enter Try.func21, Try.ntmps21
  go_wp2_with fail
  refine cN.mono ?_
  rintro e w1 ⟨rfl, hb1, hrow1⟩
  simp only []
  have cR := zzreset n (by omega) w1 w.heap.size hrow1
  replace hb1 := hide hb1
  replace hrow1 := hide hrow1
  go_wp2_with fail
  refine cR.mono ?_
  rintro e w2 ⟨rfl, hb2, sa, htb2, hsh2⟩
  simp only []
  have hB1 : w.heap.size ≤ w1.heap.size := hb1.out.size
  have st : BT w.heap.size w w.heap.size sa n R LL 0 none 0 w2 := by
    refine ⟨hb1.out.trans (hb2.below (B := w.heap.size) (fun b hb => by omega) hB1), Nat.le_refl _, htb2, ?_, World.ownsRow_nil _ _ _ _⟩
    rw [Fpart_zero]
    rcases hsh2 with h | ⟨sg, h, hle, hr⟩
    · exact .inl h
    · exact .inr ⟨sg, h, by omega, hr⟩
  replace st := hide st
  clear hb2 htb2 hsh2 cN cR
  go_wp2_with fail
  go_loopw [6, 7] (fun o i wr => ∃ (s : Nat) (pa : Option Addr) (pcap : Nat), s ≤ n ∧ i = .int .i64 s ∧ o = .int .i64 (off LL s) ∧ Hid (BT w.heap.size w w.heap.size sa n R LL s pa pcap wr)) (fun _ i _ => n - (intOf i).toNat)
  case atStart => exact ⟨0, none, 0, Nat.zero_le _, rfl, rfl, st.out⟩
  case round =>
    obtain ⟨s, pa, pcap, hs, rfl, rfl, H⟩ := hrel
    have hBr : w.heap.size ≤ wr.heap.size := H.out.bel.size
    by_cases hlt : s < n
    · obtain ⟨b1, o1, rfl, hl1, hc1⟩ := h1.out.at (by omega)
      have e1 := (H.out.bel.cell (p := ⟨b1, o1 + s, none⟩) hl1).trans (hc1 s hlt)
      clear hc1
      have hls := hLL.out s hlt
      have hoff : off LL s + LL s ≤ N := Nat.le_trans (off_mono (s := s + 1) hlt) hN
      obtain ⟨d, hd⟩ : ∃ d, d = LL s := ⟨_, rfl⟩
      obtain ⟨q, hq⟩ : ∃ q, q = off LL s := ⟨_, rfl⟩
      rw [← hd] at e1 hls hoff
      rw [← hq] at hoff ⊢
      have hmk := run_make_row' (P := Try.prog) 36 40 (.int .u32 0) 4 Try.underlying36 Try.info40 rfl .i64 .i64 d (by omega) (by omega)
      have e1' := acell (o := .cells (madeCells #[.int .u32 0] d) 40) e1
      have hl1' : b1 < wr.heap.size := by omega
      replace hd := hide hd
      replace hq := hide hq
      have hNc := h0.out.hle
      have hsrc := hide (row_src (w := w) (wr := wr) (o := .cells (madeCells #[.int .u32 0] d) 40) h0.out H.out.bel hoff)
      by_cases hcq : c0 = q
      all_goals go_wp2_with (refine wpList_copy_splice rfl (.tmp 25) (.tmp 34) 36 36 rfl 40 Try.underlying36 (by kernel_rfl) _ _ d d _ _ rfl rfl wr.heap.size 0 ((List.range d).map fun _ => .int .u32 0) 40 (rowIs_block (World.rowIs_made wr _ d 40)) ((List.range d).map fun j => .int .u32 (R (q + j) : Int)) (by simp) (fun hp => ⟨rfl, hsrc.out _ (by first | exact .inl rfl | exact .inr (by omega)) hp⟩) (by simp) (by intro v hv; obtain ⟨i, _, rfl⟩ := List.mem_map.1 hv; rfl) wr.heap.size wr ((Below.refl _ _).alloc (Nat.le_refl _) _) (Nat.le_refl _) ?_)
      all_goals intro w3 hr3 hb3
      all_goals have e3 := (hb3.cell (p := ⟨b1, o1 + s, none⟩) hl1').trans e1
      all_goals have hrow3 := row3_of hr3.out hq.out
      all_goals have pb3 := H.out.pb.below hb3
      all_goals have hB3 : w.heap.size ≤ w3.heap.size := Nat.le_trans hBr hb3.size
      all_goals have hne : (Value.slice pa (prt R LL s).length pcap).ownBlock ≠ some wr.heap.size := fun e => Nat.lt_irrefl _ (H.out.pb.po.lt _ e).2
      all_goals have hP : (prt R LL s).length ≤ 16384 := Nat.le_trans (prt_le R LL s) (by have := off_le hLL.out s hs; omega)
      all_goals have cS := zzset w.heap.size w3 w.heap.size sa n pa pcap (.slice none 0 0) (Fpart R LL s) (prt R LL s) s wr.heap.size d (rowOf R LL s) hB3 pb3 hlt hn hls hP hrow3 (fun j hj => hR.out _ (by rw [← hq.out]; omega)) hne
      all_goals replace hb3 := hide hb3
      all_goals clear hrow3 pb3 hr3 hmk e1 e1'
      all_goals go_wp2_with fail
      all_goals refine cS.mono ?_
      all_goals rintro e w4 ⟨rfl, hb4, pa', pcap', pb4⟩
      all_goals simp only []
      all_goals have e4 := (hb4.cell (p := ⟨b1, o1 + s, none⟩) hl1).trans e3
      all_goals have st4 : BT w.heap.size w w.heap.size sa n R LL (s + 1) pa' pcap' w4 := ⟨H.out.bel.trans ((hb3.out.mono hBr).trans hb4), by rw [← Fpart_step]; rw [hd.out] at pb4; exact pb4⟩
      all_goals replace st4 := hide st4
      all_goals clear hb4 pb4 cS e3
      all_goals go_wp2_with fail
      all_goals go_roundw
      case rel =>
        have fin : ∃ (s1 : Nat) (pa : Option Addr) (pcap : Nat), s1 ≤ n ∧ Value.int .i64 ((s : Int) + 1) = .int .i64 s1 ∧ Value.int .i64 ((q : Int) + d) = .int .i64 (off LL s1) ∧ Hid (BT w.heap.size w w.heap.size sa n R LL s1 pa pcap w4) := ⟨s + 1, pa', pcap', by omega, by go_num, by rw [hq.out, hd.out]; simp only [off]; go_num, st4.out⟩
        first
          | exact fin
          | (subst hcq; (repeat apply Exists.intro); exact ⟨fin, rfl⟩)
      case measure => simp [intOf]; omega
      case rel =>
        have fin : ∃ (s1 : Nat) (pa : Option Addr) (pcap : Nat), s1 ≤ n ∧ Value.int .i64 ((s : Int) + 1) = .int .i64 s1 ∧ Value.int .i64 ((q : Int) + d) = .int .i64 (off LL s1) ∧ Hid (BT w.heap.size w w.heap.size sa n R LL s1 pa pcap w4) := ⟨s + 1, pa', pcap', by omega, by go_num, by rw [hq.out, hd.out]; simp only [off]; go_num, st4.out⟩
        first
          | exact fin
          | (subst hcq; (repeat apply Exists.intro); exact ⟨fin, rfl⟩)
      case measure => simp [intOf]; omega
    · obtain rfl : s = n := by omega
      have hP : (prt R LL s).length ≤ 16384 := Nat.le_trans (prt_le R LL s) (by have := off_le hLL.out s hs; omega)
      have cS := zzseal w.heap.size wr w.heap.size sa s pa pcap (Fpart R LL s) (prt R LL s) hBr H.out.pb hP
      go_wp2_with fail
      refine cS.mono ?_
      rintro e w4 ⟨rfl, hb4, pg', pcap', cg, pt4⟩
      simp only []
      replace hb4 := hide hb4
      replace pt4 := hide pt4
      clear cS
      go_wp2_with fail
      go_ret
      exact ⟨_, sa, pg', pcap', cg, rfl, H.out.bel.trans hb4.out, pt4.out⟩

end Go.Proofs.Qxb6003686a
