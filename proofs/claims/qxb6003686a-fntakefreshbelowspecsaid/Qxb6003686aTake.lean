/-
  THE CONTRACTS OF tokens.buffer.below, takeFreshBelow AND ZZtakeFreshBelow.
-/
import Derived.Test.Qxb6003686aTok
namespace Go.Proofs.Qxb6003686a
open Go.RowKit

set_option maxHeartbeats 400000 in
theorem tbelow (g N sk : Nat) (w : World) (hN : N ≤ 1048576) (hs : sk ≤ 65536) :
    Calls Try.prog 37 #[.slice (some ⟨g, 0, none⟩) N N, .int .i64 sk] w fun e w' => e = .returned (.slice (some ⟨g, 0, none⟩) (N - sk) N) ∧ w' = w := by
  by_cases h : sk < N
  · go_enter Try.func37, Try.ntmps37
    go_wp2
    go_ret
    exact ⟨rfl, rfl⟩
  · rw [show N - sk = 0 by omega]
    go_enter Try.func37, Try.ntmps37
    go_wp2
    go_ret
    exact ⟨rfl, rfl⟩

/-- How far takeFreshBelow goes down: 'fr' is the first of the tokens that it takes. -/
structure Took (F : Nat → Bool) (bl : Nat) (n : Int) (fr : Nat) : Prop where
  le : fr ≤ bl
  all : ∀ s, fr ≤ s → s < bl → F s = true
  cnt : fr < bl → (bl : Int) - fr ≤ n
  stop : fr = 0 ∨ n ≤ (bl : Int) - fr ∨ F (fr - 1) = false

set_option maxHeartbeats 1000000 in
theorem ttake (p g N sk : Nat) (n : Int) (E : Nat → Int × Int × Bool) (w : World) (hN : N ≤ 1048576) (hs : sk ≤ 65536) (hn1 : -65536 ≤ n) (hn2 : n ≤ 65536)
    (hT : TRow w g N N E) (hp : w.cell? ⟨p, 0, none⟩ = some (.slice (some ⟨g, 0, none⟩) N N)) (hpf : w.frozen? ⟨p, 0, none⟩ = false) (hpg : g < p) :
    Calls Try.prog 28 #[.pointer (some ⟨p, 0, none⟩), .int .i64 sk, .int .i64 n] w fun e w' => ∃ fr g2 cap2, Took (fun j => (E j).2.2) (N - sk) n fr ∧
      e = .returned (.slice (some ⟨g2, 0, none⟩) (N - sk - fr) cap2) ∧ w'.cell? ⟨p, 0, none⟩ = some (.slice (some ⟨g, 0, none⟩) (N - (N - sk - fr)) N) ∧ w.heap.size ≤ g2 ∧
      But (fun b => b = g ∨ b = p) w w' ∧ TRow w' g2 cap2 (N - sk - fr) (fun j => E (N - sk - 1 - j)) ∧ TRow w' g N (N - (N - sk - fr)) (fun j => if j < fr then E j else E (j + (N - sk - fr))) := by
  obtain ⟨bl, hbl⟩ : ∃ bl, bl = N - sk := ⟨_, rfl⟩
  have hblN : bl ≤ N := by omega
  rw [← hbl]
  have Hbl := hide hbl
  clear hbl
  go_enter Try.func28, Try.ntmps28
  go_wp2_with fail
  refine (tbelow g N sk w hN hs).mono ?_
  rintro e w' ⟨rfl, rfl⟩
  rw [← Hbl.out]
  go_wp2_with fail
  go_loop [8] (fun i => ∃ fr : Nat, fr ≤ bl ∧ i = .int .i64 fr ∧ Hid ((∀ s, fr ≤ s → s < bl → (E s).2.2 = true) ∧ (fr < bl → (bl : Int) - fr ≤ n))) (fun i => (intOf i).toNat)
  case atStart => exact ⟨bl, Nat.le_refl _, rfl, fun s h1 h2 => by omega, fun h => by omega⟩
  case round =>
    obtain ⟨fr, hfr, rfl, HR⟩ := hrel
    by_cases hgo : 0 < fr ∧ (bl : Int) - fr < n ∧ (E (fr - 1)).2.2 = true
    · obtain ⟨g1, g2, g3⟩ := hgo
      have c2 := (hT.cell (fr - 1) (by omega)).2.2
      rw [g3] at c2
      have G3 := hide g3
      clear g3
      go_wp2_with fail
      go_round
      case rel =>
        refine ⟨fr - 1, by omega, by go_num, fun s h1 h2 => ?_, fun _ => by omega⟩
        by_cases e : s = fr - 1
        · subst e; exact G3.out
        · exact HR.out.1 s (by omega) h2
      case measure => simp [intOf]; omega
    · have TK : Hid (Took (fun j => (E j).2.2) bl n fr) := by
        refine ⟨hfr, HR.out.1, HR.out.2, ?_⟩
        by_cases h1 : fr = 0
        · exact .inl h1
        · by_cases h2 : (bl : Int) - fr < n
          · refine .inr (.inr ?_)
            cases h3 : (E (fr - 1)).2.2
            · rfl
            · exact absurd ⟨by omega, h2, h3⟩ hgo
          · exact .inr (.inl (by omega))
      obtain ⟨o, hA, htok⟩ : ∃ o, (if N = fr then some (⟨g, 0, none⟩ : Addr) else some ⟨g, fr * 3, none⟩) = some ⟨g, o, none⟩ ∧ Hid (TokAt w' g o (bl - fr) (fun j => E (fr + j))) := by
        by_cases h : N = fr
        · exact ⟨0, by simp [h], fun j hj => by omega⟩
        · refine ⟨fr * 3, by simp [h], fun j hj => ?_⟩
          have := hT.cell (fr + j) (by omega)
          rw [show fr * 3 + j * 3 = (fr + j) * 3 by omega]
          exact this
      have hst : fr ≤ 0 ∨ (0 < fr ∧ n ≤ (bl : Int) - fr) ∨ (0 < fr ∧ (bl : Int) - fr < n ∧ w'.cell? ⟨g, (fr - 1) * 3 + 2, none⟩ = some (.bool false)) := by
        by_cases h1 : fr = 0
        · exact .inl (by omega)
        · by_cases h2 : (bl : Int) - fr < n
          · refine .inr (.inr ⟨by omega, h2, ?_⟩)
            have c2 := (hT.cell (fr - 1) (by omega)).2.2
            rw [c2]
            cases h3 : (E (fr - 1)).2.2
            · rfl
            · exact absurd ⟨by omega, h2, h3⟩ hgo
          · exact .inr (.inl ⟨by omega, by omega⟩)
      clear hgo HR
      have plt : p < w'.heap.size := World.block_lt_of_cell? w' _ hp
      rcases hst with hst | ⟨hst1, hst2⟩ | ⟨hst1, hst2, hst3⟩
      all_goals
        go_wp2_with fail
        refine (tclone g o (bl - fr) (N - fr) (fun j => E (fr + j)) _ htok.out (by omega)).mono ?_
        rintro e w1 ⟨g2, cap2, rfl, hg2, bel1, T2⟩
        have hp1 := (bel1.cell (p := ⟨p, 0, none⟩) plt).trans hp
        have hf1 := (bel1.frozen (p := ⟨p, 0, none⟩) plt).trans hpf
        have T1 := hT.below bel1 hT.lt
        have z1 := T2.lt
        go_wp2_with fail
        refine (treverse g2 (bl - fr) cap2 _ _ T2 (by omega)).mono ?_
        rintro e w2 ⟨rfl, but2, T2'⟩
        have hp2 := (but2.cell (p := ⟨p, 0, none⟩) (show p < w1.heap.size by omega) (show ¬ p = g2 by omega)).trans hp1
        have hf2 := (World.frozen?_of_block (a := ⟨p, 0, none⟩) (but2.block p (by omega) (show ¬ p = g2 by omega))).trans hf1
        have T1' := T1.of_block (but2.block g (by omega) (show ¬ g = g2 by omega))
        have z2 := T2'.lt
        have B2 := hide ((But.of_below (s := fun _ => False) bel1).trans2 (u := fun b => b = g ∨ b = p) but2 (fun _ _ h => h.elim) (fun x hx h => by omega))
        clear hp1 hf1 T1
        go_wp2_with fail
        refine (tdelete g N fr bl E _ T1' hfr hblN hN).mono ?_
        rintro e w3 ⟨rfl, but3, T3⟩
        have hp3 := (but3.cell (p := ⟨p, 0, none⟩) (show p < w2.heap.size by omega) (show ¬ p = g by omega)).trans hp2
        have hf3 := (World.frozen?_of_block (a := ⟨p, 0, none⟩) (but3.block p (by omega) (show ¬ p = g by omega))).trans hf2
        have T2x := hide (T2'.of_block (but3.block g2 (by omega) (show ¬ g2 = g by omega)))
        have T3x := hide T3
        have B3 := hide (B2.out.trans2 (u := fun b => b = g ∨ b = p) but3 (fun _ _ h => h) (fun x hx h => .inl h))
        clear hp2 hf2 T1' T2' T3 but2 but3
        go_wp2_with fail
        go_ret
        refine ⟨fr, g2, cap2, TK.out, rfl, ?_, hg2, ?_, ?_, ?_⟩
        · exact World.cell?_setCell_same' _ _ _ (by rw [hp3]; rfl)
        · exact B3.out.setCell (.inr rfl) _
        · refine (T2x.out.setOther (show g2 ≠ p by omega) _).congr (fun j hj => ?_)
          show E (fr + (bl - fr - 1 - j)) = E (bl - 1 - j)
          congr 1; omega
        · exact T3x.out.setOther (show g ≠ p by omega) _

set_option maxHeartbeats 400000 in
theorem ZZtake (g N sk : Nat) (n : Int) (E : Nat → Int × Int × Bool) (w : World) (hN : N ≤ 1048576) (hs : sk ≤ 65536) (hn1 : -65536 ≤ n) (hn2 : n ≤ 65536) (hT : TRow w g N N E) :
    Calls Try.prog 12 #[.slice (some ⟨g, 0, none⟩) N N, .int .i64 sk, .int .i64 n] w fun e w' => ∃ fr g2 cap2, Took (fun j => (E j).2.2) (N - sk) n fr ∧
      e = .returned (.tuple #[.slice (some ⟨g, 0, none⟩) (N - (N - sk - fr)) N, .slice (some ⟨g2, 0, none⟩) (N - sk - fr) cap2]) ∧ w.heap.size ≤ g2 ∧
      But (fun b => b = g) w w' ∧ TRow w' g2 cap2 (N - sk - fr) (fun j => E (N - sk - 1 - j)) ∧ TRow w' g N (N - (N - sk - fr)) (fun j => if j < fr then E j else E (j + (N - sk - fr))) := by
  have hg := hT.lt
  go_enter Try.func12, Try.ntmps12
  go_wp2_with fail
  refine (ttake w.heap.size g N sk n E _ hN hs hn1 hn2 (hT.alloc _) (by simp) (by simp) hg).mono ?_
  rintro e w1 ⟨fr, g2, cap2, TK, rfl, hc, hg2, but, T2, T1⟩
  have TK' := hide TK
  have But' := hide but
  have T2' := hide T2
  have T1' := hide T1
  clear TK but T2 T1
  simp only [World.size_alloc] at hg2
  go_wp2_with fail
  go_ret2
  refine ⟨fr, g2, cap2, TK'.out, rfl, by omega, ?_, T2'.out, T1'.out⟩
  exact ((But.refl (fun b => b = g) w).alloc _).trans2 But'.out (fun _ _ h => h) (fun x hx h => by omega)
end Go.Proofs.Qxb6003686a
