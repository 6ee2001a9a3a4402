/-
  THE CONTRACT OF countCrossings.
-/
import Derived.Test.Qxb6003686aPtMove
namespace Go.Proofs.Qxb6003686a
open Go.RowKit

def elim_ : Nat := 2147483647
/-- The crossings of one slot's list. -/
def ev1 (s : Nat) (l : List Nat) : List (Nat × Nat) := (l.filter (fun t => t != elim_)).map (fun t => (s, t))
def evOf (lists : Nat → List Nat) : Nat → List (Nat × Nat)
  | 0 => []
  | s + 1 => evOf lists s ++ ev1 s (lists s)
def cntA (es : List (Nat × Nat)) (x : Nat) : Nat := es.countP (fun e => e.1 == x)
def cntB (es : List (Nat × Nat)) (x : Nat) : Nat := es.countP (fun e => e.2 == x)

theorem ev1_length (s : Nat) (l : List Nat) : (ev1 s l).length ≤ l.length := by
  unfold ev1
  rw [List.length_map]
  exact List.length_filter_le _ _
theorem evOf_length (lists : Nat → List Nat) (n : Nat) (h : ∀ s, s < n → (lists s).length ≤ 64) : ∀ s, s ≤ n → (evOf lists s).length ≤ 64 * s
  | 0, _ => by simp [evOf]
  | s + 1, hs => by
    have h1 := evOf_length lists n h s (by omega)
    have h2 := ev1_length s (lists s)
    have h3 := h s (by omega)
    simp only [evOf, List.length_append]
    omega
theorem ev1_take (s : Nat) (l : List Nat) (j : Nat) (hj : j < l.length) : ev1 s (l.take (j + 1)) = ev1 s (l.take j) ++ (if l.getD j 0 = elim_ then [] else [(s, l.getD j 0)]) := by
  have e : l.take (j + 1) = l.take j ++ [l.getD j 0] := by
    rw [List.take_add_one]
    simp [hj]
  rw [e]
  unfold ev1
  rw [List.filter_append, List.map_append]
  generalize l.getD j 0 = t
  by_cases h : t = elim_
  · simp [h]
  · simp [h]

theorem cnt_snoc (es : List (Nat × Nat)) (s t x : Nat) : cntA (es ++ [(s, t)]) x = (if x = s then cntA es x + 1 else cntA es x) ∧ cntB (es ++ [(s, t)]) x = (if x = t then cntB es x + 1 else cntB es x) := by
  unfold cntA cntB
  rw [List.countP_append, List.countP_append]
  constructor
  · by_cases h : x = s
    · subst h; simp
    · have : (s == x) = false := by simp; omega
      simp [this, h]
  · by_cases h : x = t
    · subst h; simp
    · have : (t == x) = false := by simp; omega
      simp [this, h]
theorem cnt_le (es : List (Nat × Nat)) (x : Nat) : cntA es x ≤ es.length ∧ cntB es x ≤ es.length := ⟨List.countP_le_length, List.countP_le_length⟩

structure CR (w : World) (og ig n : Nat) (es : List (Nat × Nat)) (wr : World) : Prop where
  but : But (fun b => b = og ∨ b = ig) w wr
  o : wr.rowIs og 21 n (fun x => .int .i32 (cntA es x : Int))
  i : wr.rowIs ig 21 n (fun x => .int .i32 (cntB es x : Int))

theorem CR.alloc {w : World} {og ig n : Nat} {es : List (Nat × Nat)} {wr : World} (h : CR w og ig n es wr) (o : Obj) : CR w og ig n es (wr.alloc o) := ⟨h.but.alloc o, h.o.alloc o, h.i.alloc o⟩

theorem CR.step {w : World} {og ig n : Nat} {es : List (Nat × Nat)} {wr : World} (h : CR w og ig n es wr) (hne : og ≠ ig) (s t : Nat) :
    CR w og ig n (es ++ [(s, t)]) ((wr.setCell ⟨og, s, none⟩ (.int .i32 ((cntA es s : Int) + 1))).setCell ⟨ig, t, none⟩ (.int .i32 ((cntB es t : Int) + 1))) := by
  refine ⟨(h.but.setCell (.inl rfl) _).setCell (.inr rfl) _, ((h.o.set s _).setOther hne _).congr ?_, ((h.i.setOther hne.symm _).set t _).congr ?_⟩
  · intro x _
    rw [(cnt_snoc es s t x).1]
    by_cases e : x = s
    · subst e; simp
    · simp [e]
  · intro x _
    rw [(cnt_snoc es s t x).2]
    by_cases e : x = t
    · subst e; simp
    · simp [e]

theorem new3 (w : World) (x y z : Value) (t : TypeId) : (w.alloc (.cells #[x, y, z] t)).cell? ⟨w.heap.size, 0, none⟩ = some x ∧ (w.alloc (.cells #[x, y, z] t)).cell? ⟨w.heap.size, 1, none⟩ = some y ∧ (w.alloc (.cells #[x, y, z] t)).cell? ⟨w.heap.size, 2, none⟩ = some z := by
  unfold World.cell?
  simp only [heap_alloc_new]
  exact ⟨rfl, rfl, rfl⟩

theorem andVal (cw b : Nat) (hc : cw < 18446744073709551616) (hb : b < 64) (ht : cw.testBit b = true) :
    (bits BinOp.and IntKind.u64 (cw : Int) (IntKind.u64.wrap ((2 : Int) ^ b)) == 0) = false := by
  have h : 2 ^ b ≤ 2 ^ 63 := Nat.pow_le_pow_right (by decide) (by omega)
  have e : IntKind.u64.wrap ((2 : Int) ^ b) = ((2 ^ b : Nat) : Int) := by
    have e : ((2 : Int) ^ b) = ((2 ^ b : Nat) : Int) := by simp
    rw [e]
    generalize 2 ^ b = p at h
    rw [IntKind.wrap_u64]
    omega
  rw [e, bits_and_u64_nat _ _ hc (by omega)]
  have h3 : (cw &&& 2 ^ b).testBit b = true := by rw [Nat.testBit_and, ht, Nat.testBit_two_pow_self]; rfl
  have h4 : cw &&& 2 ^ b ≠ 0 := by
    intro e0
    rw [e0, Nat.zero_testBit] at h3
    cases h3
  generalize cw &&& 2 ^ b = p at h4
  simp
  omega

set_option maxRecDepth 100000 in
set_option maxHeartbeats 1000000 in
theorem countCrossings {B : Nat} {w : World} {p : Nat} {sa : Option Addr} {n : Nat} {pg pcap cg : Nat} {F : Nat → Nat × Nat × Nat} {L : List Nat} {nc : Nat} {C : Nat → Nat} (h : PT B w p sa n pg pcap cg F L nc C)
    (og ig : Nat) (ho : w.rowIs og 21 n (fun _ => .int .i32 0)) (hi : w.rowIs ig 21 n (fun _ => .int .i32 0)) (hne : og ≠ ig) (hn : n ≤ 256) (lists : Nat → List Nat)
    (hF : ∀ s, s < n → (F s).2.1 = (lists s).length ∧ (lists s).length ≤ 64 ∧ (F s).1 + (lists s).length ≤ L.length ∧ ∀ j, j < (lists s).length → L.getD ((F s).1 + j) 0 = (lists s).getD j 0 ∧ ((lists s).getD j 0 = elim_ ∨ (lists s).getD j 0 < n) ∧ (C (((F s).1 + j) / 64)).testBit (((F s).1 + j) % 64) = true)
    (hL : L.length ≤ 64 * nc) (hL2 : L.length ≤ 20000) (hC : ∀ i, i < nc → C i < 18446744073709551616) :
    Calls Try.prog 36 #[.pointer (some ⟨p, 0, none⟩), .slice (some ⟨og, 0, none⟩) n n, .slice (some ⟨ig, 0, none⟩) n n] w fun e w' => e = .returned (.tuple #[]) ∧ CR w og ig n (evOf lists n) w' := by
  have x0 := h.tb.cell (i := 0) (by omega)
  have x1 := h.tb.cell (i := 1) (by omega)
  have x2 := h.tb.cell (i := 2) (by omega)
  have e0 : tcell sa n (.slice (some ⟨pg, 0, none⟩) L.length pcap) (.slice (some ⟨cg, 0, none⟩) nc nc) 0 = .slice sa n n := rfl
  have e1 : tcell sa n (.slice (some ⟨pg, 0, none⟩) L.length pcap) (.slice (some ⟨cg, 0, none⟩) nc nc) 1 = .slice (some ⟨pg, 0, none⟩) L.length pcap := rfl
  have e2 : tcell sa n (.slice (some ⟨pg, 0, none⟩) L.length pcap) (.slice (some ⟨cg, 0, none⟩) nc nc) 2 = .slice (some ⟨cg, 0, none⟩) nc nc := rfl
  rw [e0] at x0
  rw [e1] at x1
  rw [e2] at x2
  clear e0 e1 e2
  have nn : ∀ b, (b = p ∨ b = pg ∨ b = cg) → b < w.heap.size ∧ b ≠ og ∧ b ≠ ig := by
    intro b hb
    rcases hb with rfl | rfl | rfl
    · exact ⟨h.tb.lt, rowIs_ne h.tb ho (by decide), rowIs_ne h.tb hi (by decide)⟩
    · have m1 := own_ne_row h.po ho (by decide)
      have m2 := own_ne_row h.po hi (by decide)
      exact ⟨(h.po.lt _ rfl).2, by simpa [Value.ownBlock] using m1, by simpa [Value.ownBlock] using m2⟩
    · exact ⟨h.cr.lt, rowIs_ne h.cr ho (by decide), rowIs_ne h.cr hi (by decide)⟩
  have lo := ho.lt
  have li := hi.lt
  have hstart := hide (show CR w og ig n (evOf lists 0) w from ⟨But.refl _ _, by simpa [cntA, evOf] using ho, by simpa [cntB, evOf] using hi⟩)
  have H0 := hide (And.intro ho hi)
  replace nn := hide nn
  replace hF := hide hF
  replace hC := hide hC
  replace h := hide h
  clear ho hi
  go_enter Try.func36, Try.ntmps36
  go_wp2_with fail
  go_loopw [15] (fun i wr => ∃ s : Nat, s ≤ n ∧ i = .int .i64 s ∧ Hid (CR w og ig n (evOf lists s) wr)) (fun i _ => n - (intOf i).toNat)
  case atStart => exact ⟨0, Nat.zero_le _, rfl, hstart.out⟩
  case round =>
    obtain ⟨s, hs, rfl, H⟩ := hrel
    obtain ⟨wo, rfl⟩ : ∃ wo : World, wo = wr := ⟨_, rfl⟩
    by_cases hlt : s < n
    · rcases h.out.sh with ⟨h', _⟩ | ⟨sg, rfl, hsg, hsr⟩
      · omega
      obtain ⟨hf1, hf2, hf3, hf4⟩ := hF.out s hlt
      obtain ⟨s0, s1, s2⟩ := scells hsr hlt
      have hsz := H.out.but.size
      have m1 : sg ≠ og := (rowIs_ne hsr H0.out.1 (by decide))
      have m2 : sg ≠ ig := (rowIs_ne hsr H0.out.2 (by decide))
      replace s0 := (H.out.but.cell (p := ⟨sg, s * 3, none⟩) hsr.lt (by simp; omega)).trans s0
      replace s1 := (H.out.but.cell (p := ⟨sg, s * 3 + 1, none⟩) hsr.lt (by simp; omega)).trans s1
      replace s2 := (H.out.but.cell (p := ⟨sg, s * 3 + 2, none⟩) hsr.lt (by simp; omega)).trans s2
      rw [hf1] at s1
      generalize hfs : (F s).1 = f at *
      generalize (F s).2.2 = wd at *
      obtain ⟨l, hl⟩ : ∃ l, l = (lists s).length := ⟨_, rfl⟩
      rw [← hl] at s1 hf2 hf3 hf4
      clear hf1 hsr hfs
      replace hl := hide hl
      replace hf4 := hide hf4
      have o0 := new3 wo (.int .u32 (f : Int)) (.int .i32 (l : Int)) (.int .i32 (wd : Int)) 71
      have H1 := hide (H.out.alloc (.cells #[.int .u32 (f : Int), .int .i32 (l : Int), .int .i32 (wd : Int)] 71))
      go_upto_region 3 with fail
      generalize wo.alloc (.cells #[.int .u32 (f : Int), .int .i32 (l : Int), .int .i32 (wd : Int)] 71) = wa at *
      obtain ⟨o1, o2, o3⟩ := o0
      clear s0 s1 s2
      go_wp2_with fail
      go_loopw [8] (fun i wr => ∃ j : Nat, j ≤ l ∧ i = .int .u32 ((f + j : Nat) : Int) ∧ Hid (CR w og ig n (evOf lists s ++ ev1 s ((lists s).take j)) wr ∧ wr.cell? ⟨wo.heap.size, 0, none⟩ = some (.int .u32 (f : Int)) ∧ wr.cell? ⟨wo.heap.size, 1, none⟩ = some (.int .i32 (l : Int)))) (fun i _ => f + l - (intOf i).toNat)
      case atStart => exact ⟨0, Nat.zero_le _, rfl, by simpa [ev1] using H1.out, o1, o2⟩
      case round =>
        obtain ⟨j, hj, rfl, HJ⟩ := hrel
        obtain ⟨HC, q0, q1⟩ := HJ.out
        replace HC := hide HC
        by_cases hjl : j < l
        · obtain ⟨t1, t2, t3⟩ := hf4.out j hjl
          have t4 := ev1_take s (lists s) j (by rw [← hl.out]; exact hjl)
          obtain ⟨t, ht⟩ : ∃ t, t = (lists s).getD j 0 := ⟨_, rfl⟩
          rw [← ht] at t1 t2 t4
          replace t4 := hide t4
          obtain ⟨np, np1, np2⟩ := nn.out p (.inl rfl)
          obtain ⟨npg, npg1, npg2⟩ := nn.out pg (.inr (.inl rfl))
          obtain ⟨ncg, ncg1, ncg2⟩ := nn.out cg (.inr (.inr rfl))
          have y1 := (HC.out.but.cell (p := ⟨p, 1, none⟩) np (by simp; omega)).trans x1
          have y2 := (HC.out.but.cell (p := ⟨p, 2, none⟩) np (by simp; omega)).trans x2
          obtain ⟨i, hi⟩ : ∃ i, i = f + j := ⟨_, rfl⟩
          rw [← hi] at t1 t3 ⊢
          have y3 := (HC.out.but.cell (p := ⟨pg, i, none⟩) npg (by simp; omega)).trans (po_cell h.out.po i (by omega))
          rw [t1] at y3
          have y4 := (HC.out.but.cell (p := ⟨cg, i / 64, none⟩) ncg (by simp; omega)).trans (h.out.cr.cell (i := i / 64) (by omega))
          have cwb := hC.out (i / 64) (by omega)
          generalize C (i / 64) = cw at y4 cwb t3
          have hbit := andVal cw (i % 64) cwb (Nat.mod_lt _ (by decide)) t3
          have hbit2 : ¬ bits BinOp.and IntKind.u64 (cw : Int) (IntKind.u64.wrap ((2 : Int) ^ (i % 64))) = 0 := by simpa using hbit
          have z1 := HC.out.o.cell hlt
          have fz1 := HC.out.o.frozen
          have fz2 := HC.out.i.frozen
          have hlen : (evOf lists s ++ ev1 s ((lists s).take j)).length ≤ 20000 := by
            have h1 := evOf_length lists n (fun s hs => (hF.out s hs).2.1) s hs
            have h2 := ev1_length s ((lists s).take j)
            rw [List.length_take] at h2
            rw [List.length_append]
            omega
          have bA := (cnt_le (evOf lists s ++ ev1 s ((lists s).take j)) s).1
          have bB := (cnt_le (evOf lists s ++ ev1 s ((lists s).take j)) t).2
          have hi1 : i < f + l := by omega
          have hi2 : i < L.length := by omega
          replace hi := hide hi
          clear t1 t3 x1 x2 ht
          by_cases hte : t = elim_
          · replace t4 := t4.out
            rw [if_pos hte, List.append_nil] at t4
            replace t4 := hide t4
            unfold elim_ at hte
            subst hte
            go_wp2_with fail
            go_roundw
            case rel => exact ⟨j + 1, by omega, congrArg (Value.int _) (by have := hi.out; omega), by rw [t4.out]; exact HC.out, q0, q1⟩
            case measure => simp [intOf]; omega
          · have htn : t < n := by omega
            have hteb : ((t : Int) == 2147483647) = false := by unfold elim_ at hte; simp; omega
            have hn1 : (bits BinOp.and IntKind.u64 (cw : Int) (IntKind.u64.wrap ((2 : Int) ^ (i % 64))) != 0) = true := by simpa using hbit2
            have hn2 : ((t : Int) != 2147483647) = true := by simpa using hteb
            have z2 := HC.out.i.cell htn
            replace t4 := t4.out
            rw [if_neg hte] at t4
            replace t4 := hide t4
            have st := hide (HC.out.step hne s t)
            have no : wo.heap.size ≠ og := by omega
            have ni : wo.heap.size ≠ ig := by omega
            generalize cntA (evOf lists s ++ ev1 s ((lists s).take j)) s = ca at *
            generalize cntB (evOf lists s ++ ev1 s ((lists s).take j)) t = cb at *
            have q0' : ((wr.setCell ⟨og, s, none⟩ (.int .i32 ((ca : Int) + 1))).setCell ⟨ig, t, none⟩ (.int .i32 ((cb : Int) + 1))).cell? ⟨wo.heap.size, 0, none⟩ = some (.int .u32 (f : Int)) := by
              rw [cellNe (.inl ni.symm), cellNe (.inl no.symm)]; exact q0
            have q1' : ((wr.setCell ⟨og, s, none⟩ (.int .i32 ((ca : Int) + 1))).setCell ⟨ig, t, none⟩ (.int .i32 ((cb : Int) + 1))).cell? ⟨wo.heap.size, 1, none⟩ = some (.int .i32 (l : Int)) := by
              rw [cellNe (.inl ni.symm), cellNe (.inl no.symm)]; exact q1
            replace q0' := hide q0'
            replace q1' := hide q1'
            go_wp2_with fail
            go_roundw
            case rel => exact ⟨j + 1, by omega, congrArg (Value.int _) (by have := hi.out; omega), by rw [t4.out, ← List.append_assoc]; exact st.out, q0'.out, q1'.out⟩
            case measure => simp [intOf]; omega
        · obtain rfl : j = l := by omega
          go_wp2_with fail
          go_roundw
          case rel =>
            refine ⟨s + 1, by omega, by go_num, ?_⟩
            have := HC.out
            rw [hl.out, List.take_length] at this
            exact this
          case measure => simp [intOf]; omega
    · obtain rfl : s = n := by omega
      go_wp2_with fail
      go_end0
      exact ⟨rfl, H.out⟩


set_option maxRecDepth 100000 in
theorem zzcount {B : Nat} {w : World} {p : Nat} {sa : Option Addr} {n : Nat} {pg pcap cg : Nat} {F : Nat → Nat × Nat × Nat} {L : List Nat} {nc : Nat} {C : Nat → Nat} (h : PT B w p sa n pg pcap cg F L nc C)
    (og ig : Nat) (ho : w.rowIs og 21 n (fun _ => .int .i32 0)) (hi : w.rowIs ig 21 n (fun _ => .int .i32 0)) (hne : og ≠ ig) (hn : n ≤ 256) (lists : Nat → List Nat)
    (hF : ∀ s, s < n → (F s).2.1 = (lists s).length ∧ (lists s).length ≤ 64 ∧ (F s).1 + (lists s).length ≤ L.length ∧ ∀ j, j < (lists s).length → L.getD ((F s).1 + j) 0 = (lists s).getD j 0 ∧ ((lists s).getD j 0 = elim_ ∨ (lists s).getD j 0 < n) ∧ (C (((F s).1 + j) / 64)).testBit (((F s).1 + j) % 64) = true)
    (hL : L.length ≤ 64 * nc) (hL2 : L.length ≤ 20000) (hC : ∀ i, i < nc → C i < 18446744073709551616) :
    Calls Try.prog 26 #[.pointer (some ⟨p, 0, none⟩), .slice (some ⟨og, 0, none⟩) n n, .slice (some ⟨ig, 0, none⟩) n n] w fun e w' => e = .returned (.tuple #[]) ∧ CR w og ig n (evOf lists n) w' := by
  have c := countCrossings h og ig ho hi hne hn lists hF hL hL2 hC
  clear h ho hi hF hC
  go_enter Try.func26, Try.ntmps26
  go_wp2_with fail
  refine c.mono ?_
  rintro e w' ⟨rfl, hw⟩
  simp only []
  replace hw := hide hw
  go_wp2_with fail
  go_end0
  exact ⟨rfl, hw.out⟩

end Go.Proofs.Qxb6003686a
