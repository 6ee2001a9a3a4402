/-
  THE CONTRACTS OF ZZloop, entry, ZZentry, move.
-/
import Derived.Test.Qxb6003686aPtSeal
import Derived.Test.Qxb6003686aWalkers
import Derived.Laws.Bits64b
import Derived.Deep.CutRange
namespace Go.Proofs.Qxb6003686a
open Go.RowKit

set_option maxRecDepth 100000 in
theorem zzloop {B : Nat} {w : World} {p : Nat} {sa : Option Addr} {n : Nat} {pg pcap cg : Nat} {F : Nat → Nat × Nat × Nat} {L : List Nat} {nc : Nat} {C : Nat → Nat} (h : PT B w p sa n pg pcap cg F L nc C) (hL : L.length ≤ 20000) (hL0 : 0 < L.length) :
    Calls Try.prog 22 #[.pointer (some ⟨p, 0, none⟩)] w fun e w' => e = .returned (.int .u32 ((L.length - 1 : Nat) : Int)) ∧ w' = w := by
  have x1 := h.tb.cell (i := 1) (by omega)
  simp only [tcell, Nat.one_ne_zero, if_false, if_true] at x1
  clear h
  go_enter Try.func22, Try.ntmps22
  go_wp2
  go_ret
  refine ⟨congrArg Ending.returned (congrArg (Value.int IntKind.u32) ?_), rfl⟩
  omega

set_option maxRecDepth 100000 in
theorem entry (f l wd : Nat) (j loop : Nat) (w : World) (hf : f ≤ 20000) (hj : j ≤ 64) :
    Calls Try.prog 34 #[.agg #[.int .u32 f, .int .i32 l, .int .i32 wd], .int .i32 j, .int .u32 loop] w fun e w' => e = .returned (.int .u32 ((if j < l then f + j else loop : Nat) : Int)) ∧ Below w.heap.size w w' := by
  by_cases h : j < l
  · rw [if_pos h]
    go_enter Try.func34, Try.ntmps34
    go_wp2
    go_ret
    refine ⟨congrArg Ending.returned (congrArg (Value.int IntKind.u32) ?_), (Below.refl _ _).alloc (Nat.le_refl _) _⟩
    omega
  · rw [if_neg h]
    go_enter Try.func34, Try.ntmps34
    go_wp2
    go_ret
    exact ⟨rfl, (Below.refl _ _).alloc (Nat.le_refl _) _⟩

theorem scells {w : World} {sg n s : Nat} {F : Nat → Nat × Nat × Nat} (h : w.rowIs sg 71 (n * 3) (scell F)) (hs : s < n) :
    w.cell? ⟨sg, s * 3, none⟩ = some (.int .u32 (F s).1) ∧ w.cell? ⟨sg, s * 3 + 1, none⟩ = some (.int .i32 (F s).2.1) ∧ w.cell? ⟨sg, s * 3 + 2, none⟩ = some (.int .i32 (F s).2.2) := by
  rw [h.cell (by omega), h.cell (by omega), h.cell (by omega)]
  unfold scell
  have e0 : s * 3 % 3 = 0 := by omega
  have e1 : (s * 3 + 1) % 3 = 1 := by omega
  have e2 : (s * 3 + 2) % 3 = 2 := by omega
  have d0 : s * 3 / 3 = s := by omega
  have d1 : (s * 3 + 1) / 3 = s := by omega
  have d2 : (s * 3 + 2) / 3 = s := by omega
  simp [e0, e1, e2, d0, d1, d2]

set_option maxRecDepth 100000 in
theorem zzentry {B : Nat} {w : World} {p : Nat} {sa : Option Addr} {n : Nat} {pg pcap cg : Nat} {F : Nat → Nat × Nat × Nat} {L : List Nat} {nc : Nat} {C : Nat → Nat} (h : PT B w p sa n pg pcap cg F L nc C) (s j loop : Nat) (hs : s < n)
    (hf : (F s).1 ≤ 20000) (hj : j ≤ 64) :
    Calls Try.prog 23 #[.pointer (some ⟨p, 0, none⟩), .int .i32 s, .int .i32 j, .int .u32 loop] w fun e w' => e = .returned (.int .u32 ((if j < (F s).2.1 then (F s).1 + j else loop : Nat) : Int)) ∧ Below w.heap.size w w' := by
  have x0 := h.tb.cell (i := 0) (by omega)
  simp only [tcell, if_true] at x0
  rcases h.sh with ⟨h', _⟩ | ⟨sg, rfl, hsg, hsr⟩
  · omega
  obtain ⟨s0, s1, s2⟩ := scells hsr hs
  have c := entry (F s).1 (F s).2.1 (F s).2.2 j loop w hf hj
  clear h hsr
  generalize (F s).1 = f at *
  generalize (F s).2.1 = l at *
  generalize (F s).2.2 = wd at *
  generalize (if j < l then f + j else loop) = res at *
  go_enter Try.func23, Try.ntmps23
  go_wp2_with fail
  refine c.mono ?_
  rintro e w' ⟨rfl, hb⟩
  simp only []
  replace hb := hide hb
  go_wp2_with fail
  go_ret
  exact ⟨rfl, hb.out⟩

theorem xor32 (a b : Nat) (ha : a < 4294967296) (hb : b < 4294967296) : bits .xor .u32 (a : Int) (b : Int) = ((a ^^^ b : Nat) : Int) := by
  have h : a ^^^ b < 4294967296 := Nat.xor_lt_two_pow (n := 32) ha hb
  have e1 : a % 2 ^ 32 = a := Nat.mod_eq_of_lt ha
  have e2 : b % 2 ^ 32 = b := Nat.mod_eq_of_lt hb
  have e3 : (BitVec.ofNat 32 a ^^^ BitVec.ofNat 32 b).toNat = a ^^^ b := by rw [BitVec.toNat_xor, BitVec.toNat_ofNat, BitVec.toNat_ofNat, e1, e2]
  simp only [bits, BitVec.ofInt_natCast]
  show IntKind.u32.wrap (((BitVec.ofNat 32 a ^^^ BitVec.ofNat 32 b).toNat : Nat) : Int) = _
  rw [e3, IntKind.wrap_u32]
  omega
theorem and32 (a b : Nat) (ha : a < 4294967296) (hb : b < 4294967296) : bits .and .u32 (a : Int) (b : Int) = ((a &&& b : Nat) : Int) := by
  have h : a &&& b < 4294967296 := Nat.and_lt_two_pow (n := 32) a hb
  have e1 : a % 2 ^ 32 = a := Nat.mod_eq_of_lt ha
  have e2 : b % 2 ^ 32 = b := Nat.mod_eq_of_lt hb
  have e3 : (BitVec.ofNat 32 a &&& BitVec.ofNat 32 b).toNat = a &&& b := by rw [BitVec.toNat_and, BitVec.toNat_ofNat, BitVec.toNat_ofNat, e1, e2]
  simp only [bits, BitVec.ofInt_natCast]
  show IntKind.u32.wrap (((BitVec.ofNat 32 a &&& BitVec.ofNat 32 b).toNat : Nat) : Int) = _
  rw [e3, IntKind.wrap_u32]
  omega

theorem same_stay (x : Nat) (h : x = 0) : wrap32 (((x : Int) - 1) % 4294967296) / 2147483648 % 4294967296 = ((4294967295 : Nat) : Int) := by
  subst h
  unfold wrap32
  omega
theorem same_off (x : Nat) (h : 0 < x) (h2 : x < 2147483648) : wrap32 (((x : Int) - 1) % 4294967296) / 2147483648 % 4294967296 = ((0 : Nat) : Int) := by
  have e1 : ((x : Int) - 1) % 4294967296 = (x : Int) - 1 := by omega
  rw [e1]
  unfold wrap32
  omega

theorem moveVal (tv ak : Nat) (ht : tv < 2147483648) (ha : ak ≤ 256) :
    bits BinOp.xor IntKind.u32 (tv : Int) (bits BinOp.and IntKind.u32 (bits BinOp.xor IntKind.u32 (tv : Int) (ak : Int)) (wrap32 ((bits BinOp.xor IntKind.u32 (tv : Int) 2147483646 - 1) % 4294967296) / 2147483648 % 4294967296)) = ((if tv = 2147483646 then ak else tv : Nat) : Int) := by
  have e0 : (2147483646 : Int) = ((2147483646 : Nat) : Int) := rfl
  have hx : tv ^^^ ak < 4294967296 := Nat.xor_lt_two_pow (n := 32) (by omega) (by omega)
  rw [e0, xor32 tv 2147483646 (by omega) (by omega), xor32 tv ak (by omega) (by omega)]
  by_cases h : tv = 2147483646
  · rw [if_pos h, same_stay _ (by subst h; decide), and32 _ _ hx (by omega)]
    have e : (tv ^^^ ak) &&& 4294967295 = tv ^^^ ak := by
      have := Nat.and_two_pow_sub_one_eq_mod (tv ^^^ ak) 32
      rw [show (4294967295 : Nat) = 2 ^ 32 - 1 from rfl, this]
      exact Nat.mod_eq_of_lt hx
    rw [e, xor32 _ _ (by omega) hx, ← Nat.xor_assoc, Nat.xor_self, Nat.zero_xor]
  · have h0 : tv ^^^ 2147483646 ≠ 0 := by
      intro e
      have e2 : (tv ^^^ 2147483646) ^^^ 2147483646 = tv := by rw [Nat.xor_assoc, Nat.xor_self, Nat.xor_zero]
      rw [e, Nat.zero_xor] at e2
      exact h e2.symm
    have h1 : tv ^^^ 2147483646 < 2147483648 := Nat.xor_lt_two_pow (n := 31) ht (by decide)
    rw [if_neg h, same_off _ (by omega) h1, and32 _ _ hx (by omega), Nat.and_zero, xor32 _ _ (by omega) (by omega), Nat.xor_zero]

theorem orVal (cw b : Nat) (hc : cw < 18446744073709551616) (hb : b < 64) :
    bits BinOp.or IntKind.u64 (cw : Int) (IntKind.u64.wrap ((2 : Int) ^ b)) = ((cw ||| 2 ^ b : Nat) : Int) ∧ cw ||| 2 ^ b < 18446744073709551616 := by
  have h : 2 ^ b ≤ 2 ^ 63 := Nat.pow_le_pow_right (by decide) (by omega)
  have e : IntKind.u64.wrap ((2 : Int) ^ b) = ((2 ^ b : Nat) : Int) := by
    have e : ((2 : Int) ^ b) = ((2 ^ b : Nat) : Int) := by simp
    rw [e]
    generalize 2 ^ b = p at h
    rw [IntKind.wrap_u64]
    omega
  rw [e, bits_or_u64_nat _ _ hc (by omega)]
  exact ⟨rfl, Nat.or_lt_two_pow (n := 64) hc (by omega)⟩
def dest (L : List Nat) (e a : Nat) : Nat := if L.getD e 0 = 2147483646 then a else L.getD e 0

structure MvR (w : World) (cg eg nc m : Nat) (L : List Nat) (E a : Nat → Nat) (k : Nat) (C : Nat → Nat) (wr : World) : Prop where
  but : But (fun b => b = cg ∨ b = eg) w wr
  cr : wr.rowIs cg 83 nc (fun i => .int .u64 (C i : Int))
  en : wr.rowIs eg 40 m (fun i => .int .u32 ((if i < k then dest L (E i) (a i) else E i : Nat) : Int))
  mark : ∀ i, i < k → (C (E i / 64)).testBit (E i % 64) = true
  bd : ∀ i, i < nc → C i < 18446744073709551616

theorem MvR.alloc {w : World} {cg eg nc m : Nat} {L : List Nat} {E a : Nat → Nat} {k : Nat} {C : Nat → Nat} {wr : World} (h : MvR w cg eg nc m L E a k C wr) (o : Obj) : MvR w cg eg nc m L E a k C (wr.alloc o) :=
  ⟨h.but.alloc o, h.cr.alloc o, h.en.alloc o, h.mark, h.bd⟩

theorem MvR.step {w : World} {cg eg nc m : Nat} {L : List Nat} {E a : Nat → Nat} {k : Nat} {C : Nat → Nat} {wr : World} (h : MvR w cg eg nc m L E a k C wr) (hne : cg ≠ eg) (hk : k < m) {ek ak tv cw : Nat} (hek : ek = E k) (hak : ak = a k) (htv : tv = L.getD ek 0) (hcw : cw = C (ek / 64)) (ob : cw ||| 2 ^ (ek % 64) < 18446744073709551616) :
    MvR w cg eg nc m L E a (k + 1) (fun i => if i = ek / 64 then cw ||| 2 ^ (ek % 64) else C i) ((wr.setCell ⟨cg, ek / 64, none⟩ (.int .u64 ((cw ||| 2 ^ (ek % 64) : Nat) : Int))).setCell ⟨eg, k, none⟩ (.int .u32 ((if tv = 2147483646 then ak else tv : Nat) : Int))) := by
  refine ⟨(h.but.setCell (.inl rfl) _).setCell (.inr rfl) _, ((h.cr.set (ek / 64) _).setOther hne _).congr ?_, ((h.en.setOther hne.symm _).set k _).congr ?_, ?_, ?_⟩
  · intro i _
    by_cases e : i = ek / 64
    · simp [e]
    · simp [e]
  · intro i _
    by_cases e : i = k
    · subst e
      rw [if_pos rfl, if_pos (Nat.lt_succ_self _)]
      unfold dest
      rw [htv, hak, hek]
    · rw [if_neg e]
      by_cases e2 : i < k
      · rw [if_pos e2, if_pos (by omega)]
      · rw [if_neg e2, if_neg (by omega)]
  · intro i hi
    by_cases e : i = k
    · subst e
      rw [← hek]
      simp only [if_true, Nat.testBit_or, Nat.testBit_two_pow_self, Bool.or_true]
    · have := h.mark i (by omega)
      by_cases e2 : E i / 64 = ek / 64
      · simp only [e2, if_true, Nat.testBit_or]
        rw [e2, ← hcw] at this
        rw [this, Bool.true_or]
      · simp only [if_neg e2]
        exact this
  · intro i hi
    by_cases e : i = ek / 64
    · simp only [if_pos e]; exact ob
    · simp only [if_neg e]; exact h.bd i hi

theorem new2 (w : World) (x y : Value) (t : TypeId) : (w.alloc (.cells #[x, y] t)).cell? ⟨w.heap.size, 0, none⟩ = some x ∧ (w.alloc (.cells #[x, y] t)).cell? ⟨w.heap.size, 1, none⟩ = some y := by
  unfold World.cell?
  simp only [heap_alloc_new]
  exact ⟨rfl, rfl⟩

theorem po_cell {B : Nat} {w : World} {pg pcap : Nat} {L : List Nat} (h : w.ownsRow B 40 1 (.slice (some ⟨pg, 0, none⟩) L.length pcap) L.length (pvals L)) (i : Nat) (hi : i < L.length) : w.cell? ⟨pg, i, none⟩ = some (.int .u32 ((L.getD i 0 : Nat) : Int)) := by
  have := h.cells (g := pg) rfl i (.int .u32 ((L.getD i 0 : Nat) : Int)) (by simp [pvals, hi])
  rwa [Addr.add_lit, Nat.zero_add] at this

set_option maxRecDepth 100000 in
set_option maxHeartbeats 1000000 in
theorem move {B : Nat} {w : World} {p : Nat} {sa : Option Addr} {n : Nat} {pg pcap cg : Nat} {F : Nat → Nat × Nat × Nat} {L : List Nat} {nc : Nat} {C : Nat → Nat} (h : PT B w p sa n pg pcap cg F L nc C)
    (bg eg m : Nat) (E a : Nat → Nat) (O : Nat → Int) (hb : w.rowIs bg 60 (2 * m) (wcell (fun i => (a i : Int)) O)) (he : w.rowIs eg 40 m (fun i => .int .u32 (E i : Int))) (hm : m ≤ 20000) (hE : ∀ i, i < m → E i < L.length) (ha : ∀ i, i < m → a i ≤ 256)
    (hne : eg ≠ pg) (hL : L.length ≤ 64 * nc) (hnc : nc ≤ 20000) (hLv : ∀ i, i < L.length → L.getD i 0 < 2147483648) (hC : ∀ i, i < nc → C i < 18446744073709551616) :
    Calls Try.prog 35 #[.pointer (some ⟨p, 0, none⟩), .slice (some ⟨bg, 0, none⟩) m m, .slice (some ⟨eg, 0, none⟩) m m, .slice (some ⟨cg, 0, none⟩) nc nc] w fun e w' => e = .returned (.tuple #[]) ∧ ∃ C', MvR w cg eg nc m L E a m C' w' := by
  have x1 := h.tb.cell (i := 1) (by omega)
  simp only [tcell, Nat.one_ne_zero, if_false, if_true] at x1
  have n1 : pg ≠ cg := by
    have := own_ne_row h.po h.cr (by decide)
    simpa [Value.ownBlock] using this
  have n2 : bg ≠ cg := rowIs_ne hb h.cr (by decide)
  have n3 : bg ≠ eg := rowIs_ne hb he (by decide)
  have n4 : cg ≠ eg := rowIs_ne h.cr he (by decide)
  have l1 := (h.po.lt pg rfl).2
  have l2 := hb.lt
  have l3 := he.lt
  have l4 := h.cr.lt
  have hport := hide (fun i => po_cell h.po i)
  have hstart := hide (show MvR w cg eg nc m L E a 0 C w from ⟨But.refl _ _, h.cr, by simpa using he, fun i hi => by omega, hC⟩)
  replace hE := hide hE
  replace ha := hide ha
  replace hLv := hide hLv
  replace hC := hide hC
  replace hb := hide hb
  clear h he
  go_enter Try.func35, Try.ntmps35
  go_wp2_with fail
  go_loopw [24] (fun i wr => ∃ (k : Nat) (C' : Nat → Nat), k ≤ m ∧ i = .int .i64 k ∧ Hid (MvR w cg eg nc m L E a k C' wr)) (fun i _ => m - (intOf i).toNat)
  case atStart => exact ⟨0, C, Nat.zero_le _, rfl, hstart.out⟩
  case round =>
    obtain ⟨k, C', hk, rfl, H⟩ := hrel
    by_cases hlt : k < m
    · have hsz := H.out.but.size
      have b0 := (H.out.but.cell (p := ⟨bg, k * 2, none⟩) l2 (by simp; omega)).trans (hb.out.cell (i := k * 2) (by omega))
      have b1 := (H.out.but.cell (p := ⟨bg, k * 2 + 1, none⟩) l2 (by simp; omega)).trans (hb.out.cell (i := k * 2 + 1) (by omega))
      have wc0 : wcell (fun i => (a i : Int)) O (k * 2) = .int .i32 (a k : Int) := by
        have e0 : k * 2 % 2 = 0 := by omega
        have e1 : k * 2 / 2 = k := by omega
        simp [wcell, e0, e1]
      have wc1 : wcell (fun i => (a i : Int)) O (k * 2 + 1) = .int .i32 (O k) := by
        have e0 : (k * 2 + 1) % 2 = 1 := by omega
        have e1 : (k * 2 + 1) / 2 = k := by omega
        simp [wcell, e0, e1]
      rw [wc0] at b0
      rw [wc1] at b1
      have hEk := hE.out k hlt
      have hak := ha.out k hlt
      have en0 := H.out.en.cell hlt
      simp only [Nat.lt_irrefl, if_false] at en0
      obtain ⟨ek, hek⟩ : ∃ ek, ek = E k := ⟨_, rfl⟩
      obtain ⟨ak, hak'⟩ : ∃ ak, ak = a k := ⟨_, rfl⟩
      rw [← hek] at hEk en0
      rw [← hak'] at hak b0
      have c0 := H.out.cr.cell (i := ek / 64) (by omega)
      have p0 := (H.out.but.cell (p := ⟨pg, ek, none⟩) l1 (by simp; omega)).trans (hport.out ek hEk)
      have hto := hLv.out ek hEk
      obtain ⟨tv, hto'⟩ : ∃ tv, tv = L.getD ek 0 := ⟨_, rfl⟩
      obtain ⟨cw, hcw⟩ : ∃ cw, cw = C' (ek / 64) := ⟨_, rfl⟩
      rw [← hto'] at hto p0
      rw [← hcw] at c0
      have fe := H.out.en.frozen
      have fc := H.out.cr.frozen
      replace hek := hide hek
      replace hak' := hide hak'
      replace hto' := hide hto'
      replace hcw := hide hcw
      clear wc0 wc1
      have o0 := new2 wr (.int .i32 (ak : Int)) (.int .i32 (O k)) 60
      have en1 := acell (o := .cells #[.int .i32 (ak : Int), .int .i32 (O k)] 60) en0
      have c1 := acell (o := .cells #[.int .i32 (ak : Int), .int .i32 (O k)] 60) c0
      have p1 := acell (o := .cells #[.int .i32 (ak : Int), .int .i32 (O k)] 60) p0
      have fe1 := fun i => afroz (o := .cells #[.int .i32 (ak : Int), .int .i32 (O k)] 60) (a := ⟨eg, i, none⟩) (by simp; omega) (fe i)
      have fc1 := fun i => afroz (o := .cells #[.int .i32 (ak : Int), .int .i32 (O k)] 60) (a := ⟨cg, i, none⟩) (by simp; omega) (fc i)
      have H1 := hide (H.out.alloc (.cells #[.int .i32 (ak : Int), .int .i32 (O k)] 60))
      go_upto_region 5 with fail
      generalize wr.alloc (.cells #[.int .i32 (ak : Int), .int .i32 (O k)] 60) = wa at *
      clear en0 c0 p0 fe fc b0 b1
      go_wp2_with fail
      go_roundw
      case rel =>
        obtain ⟨ov, ob⟩ := orVal cw (ek % 64) (by rw [hcw.out]; exact H1.out.bd _ (by omega)) (Nat.mod_lt _ (by decide))
        rw [moveVal tv ak hto hak, ov]
        refine ⟨k + 1, fun i => if i = ek / 64 then cw ||| 2 ^ (ek % 64) else C' i, by omega, by go_num, ?_⟩
        exact H1.out.step n4 hlt hek.out hak'.out hto'.out hcw.out ob
      case measure => simp [intOf]; omega
    · obtain rfl : k = m := by omega
      go_wp2_with fail
      go_end0
      exact ⟨rfl, C', H.out⟩


theorem PT.moved {B : Nat} {w w' : World} {p : Nat} {sa : Option Addr} {n : Nat} {pg pcap cg : Nat} {F : Nat → Nat × Nat × Nat} {L : List Nat} {nc : Nat} {C C' : Nat → Nat} {eg m : Nat} {E a : Nat → Nat} {k : Nat} (h : PT B w p sa n pg pcap cg F L nc C) (hm : MvR w cg eg nc m L E a k C' w') (he : ∀ f l, w.rowIs eg 40 l f → eg ≠ pg) {f : Nat → Value} {l : Nat} (hr : w.rowIs eg 40 l f) :
    PT B w' p sa n pg pcap cg F L nc C' := by
  have n1 : pg ≠ cg := by
    have := own_ne_row h.po h.cr (by decide)
    simpa [Value.ownBlock] using this
  have n2 : p ≠ cg := rowIs_ne h.tb h.cr (by decide)
  have n3 : p ≠ eg := rowIs_ne h.tb hr (by decide)
  have n4 := he _ _ hr
  refine ⟨h.hp, h.tb.of_block (hm.but.block p h.tb.lt (by omega)), ?_, h.hpg, h.hcg, ?_, hm.cr⟩
  · refine h.sh.of_but (fun sg c hc => ?_)
    have hr' : w.rowIs sg 71 c.size (fun i => c[i]!) := ⟨c, hc, rfl, fun i hi => by simp [hi]⟩
    have m1 : sg ≠ cg := rowIs_ne hr' h.cr (by decide)
    have m2 : sg ≠ eg := rowIs_ne hr' hr (by decide)
    exact hm.but.block sg hr'.lt (by omega)
  · refine ⟨h.po.1, ?_⟩
    rcases h.po.2 with ⟨h', _⟩ | ⟨g', cap', cur, h', hb', hg', rest⟩
    · cases h'
    · refine .inr ⟨g', cap', cur, h', hb', ?_, rest⟩
      simp only [Value.slice.injEq, Option.some.injEq, Addr.mk.injEq, and_true] at h'
      rw [hm.but.block g' (by rw [← h'.1]; exact (h.po.lt pg rfl).2) (by omega)]
      exact hg'

set_option maxRecDepth 100000 in
set_option maxHeartbeats 1000000 in
theorem zzmove {B : Nat} {w : World} {p : Nat} {sa : Option Addr} {n : Nat} {pg pcap cg : Nat} {F : Nat → Nat × Nat × Nat} {L : List Nat} {nc : Nat} {C : Nat → Nat} (h : PT B w p sa n pg pcap cg F L nc C)
    (bg eg m : Nat) (E a : Nat → Nat) (O : Nat → Int) (hb : w.rowIs bg 60 (2 * m) (wcell (fun i => (a i : Int)) O)) (he : w.rowIs eg 40 m (fun i => .int .u32 (E i : Int))) (hm : m ≤ 20000) (hE : ∀ i, i < m → E i < L.length) (ha : ∀ i, i < m → a i ≤ 256)
    (hne : eg ≠ pg) (hL : L.length ≤ 64 * nc) (hnc : nc ≤ 20000) (hLv : ∀ i, i < L.length → L.getD i 0 < 2147483648) (hC : ∀ i, i < nc → C i < 18446744073709551616) :
    Calls Try.prog 24 #[.pointer (some ⟨p, 0, none⟩), .slice (some ⟨bg, 0, none⟩) m m, .slice (some ⟨eg, 0, none⟩) m m] w fun e w' => e = .returned (.tuple #[]) ∧ ∃ C', MvR w cg eg nc m L E a m C' w' ∧ PT B w' p sa n pg pcap cg F L nc C' := by
  have c := move h bg eg m E a O hb he hm hE ha hne hL hnc hLv hC
  have x2 := h.tb.cell (i := 2) (by omega)
  have e2 : tcell sa n (.slice (some ⟨pg, 0, none⟩) L.length pcap) (.slice (some ⟨cg, 0, none⟩) nc nc) 2 = .slice (some ⟨cg, 0, none⟩) nc nc := rfl
  rw [e2] at x2
  clear e2 hE ha hLv hC hb
  replace h := hide h
  replace he := hide he
  go_enter Try.func24, Try.ntmps24
  go_wp2_with fail
  refine c.mono ?_
  rintro e w' ⟨rfl, C', hw⟩
  simp only []
  replace hw := hide hw
  go_wp2_with fail
  go_end0
  exact ⟨rfl, C', hw.out, h.out.moved hw.out (fun _ _ _ => hne) he.out⟩

end Go.Proofs.Qxb6003686a
