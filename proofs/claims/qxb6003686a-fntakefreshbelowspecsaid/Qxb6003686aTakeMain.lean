/-
  THE WALK OF FnTakeFreshBelowSpec.
-/
import Derived.Test.Qxb6003686aRank
import Derived.Deep.DeepCutAuto
namespace Go.Proofs.Qxb6003686a
open Go.RowKit

theorem TRow.some {w : World} {g cap N : Nat} {E : Nat → Int × Int × Bool} (h : TRow w g cap N E) (c : Nat) (hc : c < cap * 3) : ∃ v, w.cell? ⟨g, c, none⟩ = some v := by
  obtain ⟨f, hf, _⟩ := h
  exact ⟨_, hf.cell hc⟩

/-- One token more. -/
theorem TRow.push {w : World} {g cap k : Nat} {E : Nat → Int × Int × Bool} (h : TRow w g cap k E) (hk : k < cap) :
    TRow (((w.setCell ⟨g, k * 3, none⟩ (.int .i64 (E k).1)).setCell ⟨g, k * 3 + 1, none⟩ (.int .i64 (E k).2.1)).setCell ⟨g, k * 3 + 2, none⟩ (.bool (E k).2.2)) g cap (k + 1) E := by
  obtain ⟨f, hf, hN, hE⟩ := h
  refine ⟨_, ((hf.set (k * 3) _).set (k * 3 + 1) _).set (k * 3 + 2) _, by omega, fun j hj => ?_⟩
  by_cases e : j = k
  · subst e
    simp only [if_true]
    refine ⟨?_, ?_, trivial⟩
    · rw [if_neg (by omega), if_neg (by omega)]
    · rw [if_neg (by omega)]
  · have := hE j (by omega)
    refine ⟨?_, ?_, ?_⟩
    · rw [if_neg (by omega), if_neg (by omega), if_neg (by omega)]; exact this.1
    · rw [if_neg (by omega), if_neg (by omega), if_neg (by omega)]; exact this.2.1
    · rw [if_neg (by omega), if_neg (by omega), if_neg (by omega)]; exact this.2.2

theorem TRow.made (w : World) (zs : Array Value) (N : Nat) (E : Nat → Int × Int × Bool) : TRow (w.alloc (.cells (madeCells zs (3 * N)) 32)) w.heap.size N 0 E := by
  have := rowIs_madeCells w zs (3 * N) 32
  rw [show 3 * N = N * 3 by omega] at this ⊢
  exact ⟨_, this, Nat.zero_le _, fun j hj => by omega⟩

theorem neq32 (a b : Int) (c : Bool) (w : World) : (binOp .neq 32 (.agg #[.int .i64 a, .int .i64 b, .bool c]) (.agg #[.int .i64 a, .int .i64 b, .bool c])).run Try.prog w = .ok (.bool false) w := by
  have u2 := Try.underlying2
  have u3 := Try.underlying3
  have u4 := Try.underlying4
  have hS : Try.prog.underlying 32 = some (.struct (Try.prog.fieldsOf 32)) := by kernel_rfl
  have hp : Try.prog.stoodInHeld 32 = false := by kernel_rfl
  rw [run_neq_struct, show (10000 : Nat) = 9999 + 1 from rfl, run_equalIn_agg w 9999 32 _ _ hS hp]
  simp only [Program.fieldsOf, Try.underlying32]
  go_simp
theorem guard32 : Try.prog.eqGuardType Try.prog.depth 32 = false := by kernel_rfl

set_option maxRecDepth 100000 in
set_option maxHeartbeats 4000000 in
theorem main3 (a0 a1 a2 : Option Addr) (c0 c1 c2 N sk : Nat) (n : Int) (Og Mt : Nat → Int) (Fr : Nat → Bool) (w : World) (hm : 17 * N ≤ 1048576) (hs : sk ≤ 65536) (hn1 : -65536 ≤ n) (hn2 : n ≤ 65536)
    (h0 : Sl w a0 N c0 (fun i => .int .i64 (Og i))) (h1 : Sl w a1 N c1 (fun i => .int .i64 (Mt i))) (h2 : Sl w a2 N c2 (fun i => .bool (Fr i))) :
    Calls Try.prog 3 #[.slice a0 N c0, .slice a1 N c1, .slice a2 N c2, .int .i64 sk, .int .i64 n] w fun e w' => e = .returned (.bool true) ∧ Below w.heap.size w w' := by
  have hmk := run_make_rows (P := Try.prog) 30 32 #[.int .i64 0, .int .i64 0, .bool false] (.agg #[.int .i64 0, .int .i64 0, .bool false]) 3 24 (3 * N) Try.underlying30 Try.info32 rfl .i64 .i64 N (by omega) (by omega) (by omega)
  go_enter Try.func3, Try.ntmps3
  go_wp2_with (go_at_call 7; refine (bytes3_yes _ _ _ _ _ _ _ _ _ _ _ _ (by omega)).mono ?_; rintro e w ⟨rfl, rfl⟩)
  go_loopw [12] (fun i wr => ∃ k q : Nat, (k = 0 ∨ k + 1 ≤ N) ∧ i = .int .i64 k ∧ wr = w.drewN q ∧ Hid (∀ j, j < k → rankB (Fr j) (Mt j) (Fr (j + 1)) (Mt (j + 1)) = false)) (fun i _ => N - (intOf i).toNat)
  case atStart => exact ⟨0, 0, .inl rfl, rfl, rfl, fun j hj => by omega⟩
  case round =>
    obtain ⟨k, q, hk, rfl, rfl, HR⟩ := hrel
    by_cases hlt : k + 1 < N
    · obtain ⟨b1, o1, hb1, hl1, hx1⟩ := h1.at (by omega)
      obtain ⟨b2, o2, hb2, hl2, hx2⟩ := h2.at (by omega)
      subst hb1 hb2
      have e1 := hx1 k (by omega)
      have e2 := hx2 k (by omega)
      have e3 := hx1 (k + 1) (by omega)
      have e4 := hx2 (k + 1) (by omega)
      clear hx1 hx2
      cases hr : rankB (Fr k) (Mt k) (Fr (k + 1)) (Mt (k + 1))
      · have Hr := hide hr
        clear hr
        go_wp2_with fail
        go_quiet ((go_at_call 8; refine (rank_any _ _ _ _ _ _ Hr.out).mono ?_; rintro e w' ⟨rfl, rfl⟩; exact ⟨rfl, _, rfl⟩))
        go_wp2_with fail
        go_roundw
        case rel =>
          refine ⟨k + 1, _, .inr (by omega), by go_num, rfl, fun j hj => ?_⟩
          by_cases e : j = k
          · subst e; exact Hr.out
          · exact HR.out j (by omega)
        case measure => simp [intOf]; omega
      · have Hr := hide hr
        clear hr
        go_wp2_with fail
        go_quiet ((go_at_call 8; refine (rank_any _ _ _ _ _ _ Hr.out).mono ?_; rintro e w' ⟨rfl, rfl⟩; exact ⟨rfl, _, rfl⟩))
        go_wp2_with fail
        go_ret
        exact ⟨rfl, bdrewN (bdrewN (Below.refl _ _) _) _⟩
    · obtain ⟨E, hE⟩ : ∃ E : Nat → Int × Int × Bool, E = fun j => (Og j, Mt j, Fr j) := ⟨_, rfl⟩
      have EO : ∀ j, (E j).1 = Og j := fun j => by rw [hE]
      have EM : ∀ j, (E j).2.1 = Mt j := fun j => by rw [hE]
      have EF : ∀ j, (E j).2.2 = Fr j := fun j => by rw [hE]
      have RK : Hid (Ranked E N) := by
        intro j hj
        rw [EM, EM, EF, EF]
        exact HR.out j (by omega)
      have E1 := hide EO
      have E2 := hide EM
      have E3 := hide EF
      clear hE EO EM EF HR
      have bd : Below w.heap.size w (w.drewN q) := bdrewN (Below.refl _ _) _
      go_wp2_with fail
      refine (cloneI64 a0 N c0 _ _ (fun _ => rfl) (h0.below bd (Nat.le_refl _)) (by omega)).mono ?_
      rintro e wa ⟨a0', c0', rfl, bwa', h0a⟩
      have bwa : Below w.heap.size w wa := ⟨bwa'.os, bwa'.tape, bwa'.output, bwa'.size, bwa'.block⟩
      have h1a := h1.below bwa (Nat.le_refl _)
      have h2a := h2.below bwa (Nat.le_refl _)
      clear h0 h1 h2 bwa' bd
      go_wp2_with fail
      refine (cloneInt a1 N c1 _ _ (fun _ => rfl) h1a (by omega)).mono ?_
      rintro e wb ⟨a1', c1', rfl, bwb, h1b⟩
      have h0b := h0a.below bwb (Nat.le_refl _)
      have h2b := h2a.below bwb (Nat.le_refl _)
      have bab := bwa.trans (bwb.mono bwa.size)
      clear h0a h1a h2a bwa bwb
      go_wp2_with fail
      refine (cloneBool a2 N c2 _ _ (fun _ => rfl) h2b (by omega)).mono ?_
      rintro e wk ⟨a2', c2', rfl, bwc, h2c⟩
      have h0c := h0b.below bwc (Nat.le_refl _)
      have h1c := h1b.below bwc (Nat.le_refl _)
      have bac := bab.trans (bwc.mono bab.size)
      clear h0b h1b h2b bab bwc
      go_wp2_with fail
      go_loopw [15] (fun i wr => ∃ k : Nat, k ≤ N ∧ i = .int .i64 k ∧ Hid (Below wk.heap.size wk wr ∧ TRow wr wk.heap.size N k E ∧ TRow wr (wk.heap.size + 1) N k E)) (fun i _ => N - (intOf i).toNat)
      case atStart =>
        refine ⟨0, Nat.zero_le _, rfl, ((Below.refl _ _).alloc (Nat.le_refl _) _).alloc (by simp) _, (TRow.made wk _ N E).alloc _, ?_⟩
        have := TRow.made (wk.alloc (.cells (madeCells #[.int .i64 0, .int .i64 0, .bool false] (3 * N)) 32)) #[.int .i64 0, .int .i64 0, .bool false] N E
        simp only [World.size_alloc] at this
        exact this
      case round =>
        obtain ⟨k, hk, rfl, HR⟩ := hrel
        by_cases hlt : k < N
        · obtain ⟨b0, o0, hb0, hl0, hx0⟩ := h0c.at (by omega)
          obtain ⟨b1, o1, hb1, hl1, hx1⟩ := h1c.at (by omega)
          obtain ⟨b2, o2, hb2, hl2, hx2⟩ := h2c.at (by omega)
          subst hb0 hb1 hb2
          have e0 := (HR.out.1.cell (p := ⟨b0, o0 + k, none⟩) hl0).trans (hx0 k hlt)
          have e1 := (HR.out.1.cell (p := ⟨b1, o1 + k, none⟩) hl1).trans (hx1 k hlt)
          have e2 := (HR.out.1.cell (p := ⟨b2, o2 + k, none⟩) hl2).trans (hx2 k hlt)
          clear hx0 hx1 hx2
          obtain ⟨v0, x0⟩ := HR.out.2.1.some (k * 3) (by omega)
          obtain ⟨v1, x1⟩ := HR.out.2.1.some (k * 3 + 1) (by omega)
          obtain ⟨v2, x2⟩ := HR.out.2.1.some (k * 3 + 2) (by omega)
          obtain ⟨u0, y0⟩ := HR.out.2.2.some (k * 3) (by omega)
          obtain ⟨u1, y1⟩ := HR.out.2.2.some (k * 3 + 1) (by omega)
          obtain ⟨u2, y2⟩ := HR.out.2.2.some (k * 3 + 2) (by omega)
          have f1 := HR.out.2.1.frozen
          have f2 := HR.out.2.2.frozen
          go_wp2_with fail
          go_region
          go_wp2_with fail
          go_roundw
          case rel =>
            rw [← E1.out k, ← E2.out k, ← E3.out k]
            obtain ⟨r1, r2, r3⟩ := HR.out
            refine ⟨k + 1, by omega, by go_num, ?_, ?_, ?_⟩
            · exact ((((((r1.setCell (Nat.le_refl _) _).setCell (Nat.le_refl _) _).setCell (Nat.le_refl _) _).setCell (by simp) _).setCell (by simp) _).setCell (by simp) _).drew
            · exact ((((r2.push hlt).setOther (by simp) _).setOther (by simp) _).setOther (by simp) _).drew
            · exact (TRow.push (((r3.setOther (by simp) _).setOther (by simp) _).setOther (by simp) _) hlt).drew
          case measure => simp [intOf]; omega
        obtain rfl : N = k := by omega
        obtain ⟨belr, Tb, To⟩ := HR.out
        have TB := hide Tb
        have TO := hide To
        clear HR Tb To
        obtain ⟨bl, hbl⟩ : ∃ bl, bl = N - sk := ⟨_, rfl⟩
        have hblN : bl ≤ N := by omega
        have Hbl := hide hbl
        have hb1 : (N : Int) - sk ≤ bl := by omega
        have hb2 : (sk : Int) ≤ N → (bl : Int) ≤ (N : Int) - sk := by omega
        have hb3 : (N : Int) < sk → bl ≤ 0 := by omega
        clear hbl
        go_upto_if 139 with (fail)
        go_cut [16] from 135 to 139 (fun v wx => v = .int .i64 bl ∧ wr = wx)
        case first =>
          by_cases hsk : sk ≤ N
          · go_wp2_with fail
            go_meet
            case rel => exact ⟨by go_num, rfl⟩
          · go_wp2_with fail
            go_meet
            case rel => exact ⟨by go_num, rfl⟩
        obtain ⟨rfl, rfl⟩ := hcut
        clear hb1 hb2 hb3
        go_wp2_with fail
        go_loop [17, 18] (fun f i => ∃ k c : Nat, k ≤ bl ∧ c ≤ k ∧ i = .int .i64 k ∧ f = .int .i64 c ∧ Hid (c = cntF (fun j => (E j).2.2) k)) (fun _ i => bl - (intOf i).toNat)
        case atStart => exact ⟨0, 0, Nat.zero_le _, Nat.le_refl _, rfl, rfl, rfl⟩
        case round =>
          obtain ⟨k, c, hk, hck, rfl, rfl, HC⟩ := hrel
          by_cases hlt : k < bl
          · obtain ⟨b2, o2, hb2, hl2, hx2⟩ := h2c.at (by omega)
            subst hb2
            have e2 := (belr.cell (p := ⟨b2, o2 + k, none⟩) hl2).trans (hx2 k (by omega))
            clear hx2
            have HS : Hid (cntF (fun j => (E j).2.2) (k + 1) = c + (if Fr k then 1 else 0)) := by
              show cntF (fun j => (E j).2.2) k + (if (E k).2.2 then 1 else 0) = _
              rw [E3.out k, ← HC.out]
            cases hF : Fr k
            · rw [hF] at e2
              have HF := hide hF
              clear hF
              go_wp2_with fail
              go_round
              case rel => exact ⟨k + 1, c, by omega, by omega, by go_num, rfl, by rw [HS.out, HF.out]; rfl⟩
              case measure => simp [intOf]; omega
            · rw [hF] at e2
              have HF := hide hF
              clear hF
              go_wp2_with fail
              go_round
              case rel => exact ⟨k + 1, c + 1, by omega, by omega, by go_num, by go_num, by rw [HS.out, HF.out]; rfl⟩
              case measure => simp [intOf]; omega
          obtain rfl : bl = k := by omega
          obtain ⟨K0, hK0⟩ : ∃ K0 : Int, K0 = if n < 0 then 0 else n := ⟨_, rfl⟩
          have k01 : 0 ≤ K0 := by rw [hK0]; split <;> omega
          have k02 : K0 ≤ 65536 := by rw [hK0]; split <;> omega
          have k03 : n < 0 → K0 ≤ 0 := fun h => by rw [hK0, if_pos h]; omega
          have k04 : 0 ≤ n → n ≤ K0 ∧ K0 ≤ n := fun h => by rw [hK0, if_neg (by omega)]; omega
          have HK0 := hide hK0
          clear hK0
          go_upto_if 153 with (fail)
          go_cut [19] from 151 to 153 (fun v wx => v = .int .i64 K0 ∧ wr = wx)
          case first =>
            by_cases hnn : n < 0
            · have := k03 hnn
              clear k03 k04
              go_wp2_with fail
              go_meet
              case rel => exact ⟨by go_num, rfl⟩
            · have := k04 (by omega)
              clear k03 k04
              go_wp2_with fail
              go_meet
              case rel => exact ⟨by go_num, rfl⟩
          obtain ⟨rfl, rfl⟩ := hcut
          clear k03 k04
          obtain ⟨K, hK⟩ : ∃ K : Int, K = if (c : Int) < K0 then (c : Int) else K0 := ⟨_, rfl⟩
          have k11 : 0 ≤ K := by rw [hK]; split <;> omega
          have k12 : K ≤ c := by rw [hK]; split <;> omega
          have k13 : (c : Int) < K0 → c ≤ K := fun h => by rw [hK, if_pos h]; omega
          have k14 : K0 ≤ (c : Int) → K0 ≤ K ∧ K ≤ K0 := fun h => by rw [hK, if_neg (by omega)]; omega
          have HK := hide hK
          clear hK
          go_upto_if 156 with (fail)
          go_cut [19] from 154 to 157 (fun v wx => v = .int .i64 K ∧ wr = wx)
          case first =>
            by_cases hnn : (c : Int) < K0
            · have := k13 hnn
              clear k13 k14
              go_wp2_with fail
              go_meet
              case rel => exact ⟨by go_num, rfl⟩
            · have := k14 (by omega)
              clear k13 k14
              go_wp2_with fail
              go_meet
              case rel => exact ⟨by go_num, rfl⟩
          obtain ⟨rfl, rfl⟩ := hcut
          clear k13 k14
          go_wp2_with fail
          refine (ZZtake wk.heap.size N sk n E _ (by omega) hs hn1 hn2 TB.out).mono ?_
          rw [← Hbl.out]
          rintro e w5 ⟨fr, g2, cap2, TK, he, hg2, but5, T2, T1⟩
          obtain ⟨t, ht⟩ : ∃ t, t = bl - fr := ⟨_, rfl⟩
          have hKt : K = (t : Int) := by
            rw [HK.out, HK0.out, HC.out, ht]
            exact (took_count RK.out hblN TK).symm
          rw [← ht] at he T2 T1
          have hft : fr + t = bl := by have := TK.le; omega
          have Hft := hide hft
          have hf1 : fr ≤ bl := TK.le
          have hf2 : t ≤ bl := by omega
          have hf3 : (bl : Int) - t ≤ fr := by omega
          have hf4 : (fr : Int) ≤ (bl : Int) - t := by omega
          subst hKt he
          clear ht HK HK0 hft
          have b5 : Below wk.heap.size wr w5 := but5.below (fun b h => by omega) belr.size
          have TO5 := hide (TO.out.of_block (but5.block (wk.heap.size + 1) TO.out.lt (show ¬ wk.heap.size + 1 = wk.heap.size by omega)))
          have T2h := hide T2
          have T1h := hide T1
          have TKh := hide TK
          have RL := hide (left_ranked RK.out (fr := fr) (t := t) (by omega))
          have hg5 := T2.lt
          have hne := neq32
          have hgu := guard32
          clear T2 T1 TK but5 TB TO
          go_wp2_with fail
          go_loopw [22] (fun i wx => ∃ k q : Nat, k ≤ t ∧ i = .int .i64 k ∧ wx = w5.drewN q) (fun i _ => t - (intOf i).toNat)
          case atStart => exact ⟨0, 0, Nat.zero_le _, rfl, rfl⟩
          case round =>
            obtain ⟨k, q, hk, rfl, rfl⟩ := hrel
            by_cases hlt : k < t
            · obtain ⟨x0, x1, x2⟩ := T2h.out.cell k hlt
              obtain ⟨y0, y1, y2⟩ := TO5.out.cell (bl - 1 - k) (by omega)
              have hfr : (E (bl - 1 - k)).2.2 = true := TKh.out.all (bl - 1 - k) (by omega) (by omega)
              rw [hfr] at x2 y2
              clear hfr
              go_wp2_with fail
              go_quiet (fail)
              go_wp2_with fail
              go_roundw
              case rel => exact ⟨k + 1, _, by omega, by go_num, rfl⟩
              case measure => simp [intOf]; omega
            go_wp2_with fail
            clear hk hlt
            go_loopw [23] (fun i wx => ∃ k q : Nat, k ≤ fr ∧ i = .int .i64 k ∧ wx = w5.drewN q) (fun i _ => fr - (intOf i).toNat)
            case atStart => exact ⟨0, _, Nat.zero_le _, rfl, rfl⟩
            case round =>
              obtain ⟨k, q, hk, rfl, rfl⟩ := hrel
              by_cases hlt : k < fr
              · obtain ⟨x0, x1, x2⟩ := T1h.out.cell k (by omega)
                obtain ⟨y0, y1, y2⟩ := TO5.out.cell k (by omega)
                simp only [if_pos hlt] at x0 x1 x2
                go_wp2_with fail
                go_quiet (fail)
                go_wp2_with fail
                go_roundw
                case rel => exact ⟨k + 1, _, by omega, by go_num, rfl⟩
                case measure => simp [intOf]; omega
              go_wp2_with fail
              clear hk hlt
              go_loopw [24] (fun i wx => ∃ k q : Nat, bl ≤ k ∧ k ≤ N ∧ i = .int .i64 k ∧ wx = w5.drewN q) (fun i _ => N - (intOf i).toNat)
              case atStart => exact ⟨bl, _, Nat.le_refl _, hblN, rfl, rfl⟩
              case round =>
                obtain ⟨k, q, hkb, hk, rfl, rfl⟩ := hrel
                by_cases hlt : k < N
                · obtain ⟨x0, x1, x2⟩ := T1h.out.cell (k - t) (by omega)
                  obtain ⟨y0, y1, y2⟩ := TO5.out.cell k (by omega)
                  simp only [if_neg (show ¬ k - t < fr by omega), show k - t + t = k by omega] at x0 x1 x2
                  go_wp2_with fail
                  go_quiet (fail)
                  go_wp2_with fail
                  go_roundw
                  case rel => exact ⟨k + 1, _, by omega, by omega, by go_num, rfl⟩
                  case measure => simp [intOf]; omega
                go_wp2_with fail
                clear hkb hk hlt
                go_loopw [25] (fun i wx => ∃ k q : Nat, (k = 0 ∨ k + 1 ≤ N - t) ∧ i = .int .i64 k ∧ wx = w5.drewN q) (fun i _ => N - (intOf i).toNat)
                case atStart => exact ⟨0, _, .inl rfl, rfl, rfl⟩
                case round =>
                  obtain ⟨k, q, hk, rfl, rfl⟩ := hrel
                  by_cases hlt : k + 1 < N - t
                  · obtain ⟨x0, x1, x2⟩ := T1h.out.cell k (by omega)
                    obtain ⟨y0, y1, y2⟩ := T1h.out.cell (k + 1) (by omega)
                    have Hr := hide (RL.out k hlt)
                    obtain ⟨P, hP⟩ : ∃ P, P = (if k < fr then E k else E (k + t)) := ⟨_, rfl⟩
                    obtain ⟨Q, hQ⟩ : ∃ Q, Q = (if k + 1 < fr then E (k + 1) else E (k + 1 + t)) := ⟨_, rfl⟩
                    rw [← hP] at x0 x1 x2
                    rw [← hQ] at y0 y1 y2
                    have Hr' : Hid (rankB P.2.2 P.2.1 Q.2.2 Q.2.1 = false) := by rw [hP, hQ]; exact Hr.out
                    clear hP hQ Hr
                    go_wp2_with fail
                    go_quiet ((go_at_call 8; refine (rank_any _ _ _ _ _ _ Hr'.out).mono ?_; rintro e w' ⟨rfl, rfl⟩; exact ⟨rfl, _, rfl⟩))
                    go_wp2_with fail
                    go_roundw
                    case rel => exact ⟨k + 1, _, .inr (by omega), by go_num, rfl⟩
                    case measure => simp [intOf]; omega
                  go_wp2_with fail
                  go_ret
                  exact ⟨rfl, bdrewN (bac.trans ((belr.trans b5).mono bac.size)) _⟩
end Go.Proofs.Qxb6003686a
