/-
  THE CONTRACTS OF zzBytes_FnPortDrawsCoverRow AND zzRowsFit.
-/
import Derived.Test.Qxb6003686aPtBuild
import Derived.Test.Qxb6003686aPtCount
namespace Go.Proofs.Qxb6003686a
open Go.RowKit

set_option maxRecDepth 100000 in
theorem bytesPort (a0 a1 : Option Addr) (N c0 n c1 : Nat) (w : World) (hN : N ≤ 9223372036854775807) (hn : n ≤ 9223372036854775807) :
    Calls Try.prog 19 #[.slice a0 N c0, .slice a1 n c1] w fun e w' => e = .returned (.bool (decide (N + n ≤ 1048576))) ∧ w' = w := by
  by_cases h : N + n ≤ 1048576
  · rw [decide_eq_true h]
    go_enter Try.func19, Try.ntmps19
    go_wp2
    go_ret
    exact ⟨rfl, rfl⟩
  · rw [decide_eq_false h]
    go_enter Try.func19, Try.ntmps19
    go_wp2
    all_goals go_ret
    all_goals exact ⟨rfl, rfl⟩

/-- What zzRowsFit vouches for. -/
structure Fit (N n : Nat) (R : Nat → Nat) (LZ : Nat → Int) (LL : Nat → Nat) : Prop where
  hn : n ≤ 256
  hz : ∀ s, s < n → LZ s = (LL s : Int) ∧ LL s ≤ 64
  hN : off LL n ≤ N
  hR : ∀ i, i < off LL n → R i = elim_ ∨ R i < n

def FitOut (N n : Nat) (R : Nat → Nat) (LZ : Nat → Int) (w : World) (e : Ending) (w' : World) : Prop := w' = w ∧ ∃ b, e = .returned (.bool b) ∧ (b = true → Fit N n R LZ (fun s => (LZ s).toNat))

set_option maxRecDepth 100000 in
set_option maxHeartbeats 1000000 in
theorem rowsFit (a0 a1 : Option Addr) (N c0 n c1 : Nat) (R : Nat → Nat) (LZ : Nat → Int) (w : World) (h0 : Sl w a0 N c0 (fun i => .int .u32 (R i : Int))) (h1 : Sl w a1 n c1 (fun i => .int .i64 (LZ i))) (hN : N ≤ 1048576) (hn : n ≤ 1048576) (hR : ∀ i, i < N → R i < 4294967296) :
    Calls Try.prog 20 #[.slice a0 N c0, .slice a1 n c1] w (FitOut N n R LZ w) := by
  replace h0 := hide h0
  replace h1 := hide h1
  replace hR := hide hR
  by_cases hn2 : n ≤ 256
  · go_enter Try.func20, Try.ntmps20
    go_wp2_with fail
    go_loop [6, 7] (fun t i => ∃ s : Nat, s ≤ n ∧ i = .int .i64 s ∧ t = .int .i64 (off (fun s => (LZ s).toNat) s : Nat) ∧ Hid (∀ u, u < s → 0 ≤ LZ u ∧ LZ u ≤ 64)) (fun _ i => n - (intOf i).toNat)
    case atStart => exact ⟨0, Nat.zero_le _, rfl, rfl, fun u hu => by omega⟩
    case round =>
      obtain ⟨s, hs, rfl, rfl, H⟩ := hrel
      have hoff := off_le (LL := fun s => (LZ s).toNat) (n := s) (fun u hu => by have := H.out u hu; omega) s (Nat.le_refl _)
      by_cases hlt : s < n
      · obtain ⟨b1, o1, rfl, hl1, hc1⟩ := h1.out.at (by omega)
        have e1 := hc1 s hlt
        clear hc1
        obtain ⟨z, hz⟩ : ∃ z, z = LZ s := ⟨_, rfl⟩
        rw [← hz] at e1
        have eo : off (fun s => (LZ s).toNat) (s + 1) = off (fun s => (LZ s).toNat) s + (LZ s).toNat := rfl
        rw [← hz] at eo
        replace eo := hide eo
        generalize off (fun s => (LZ s).toNat) s = q at *
        replace hz := hide hz
        by_cases hb : z < 0 ∨ 64 < z
        · rcases hb with hb | hb
          · go_wp2_with fail
            go_ret
            exact ⟨rfl, false, rfl, fun h => by cases h⟩
          · go_wp2_with fail
            go_ret
            exact ⟨rfl, false, rfl, fun h => by cases h⟩
        · go_wp2_with fail
          go_round
          case rel =>
            refine ⟨s + 1, by omega, by go_num, ?_, fun u hu => ?_⟩
            · rw [eo.out]
              exact congrArg (Value.int _) (by omega)
            · by_cases e : u = s
              · subst e
                rw [← hz.out]
                omega
              · exact H.out u (by omega)
          case measure => simp [intOf]; omega
      · obtain rfl : s = n := by omega
        obtain ⟨q, hq⟩ : ∃ q, q = off (fun s => (LZ s).toNat) s := ⟨_, rfl⟩
        rw [← hq] at hoff ⊢
        replace hq := hide hq
        by_cases hqN : q ≤ N
        · go_wp2_with fail
          go_loop [8] (fun i => ∃ k : Nat, k ≤ q ∧ i = .int .i64 k ∧ Hid (∀ i, i < k → R i = elim_ ∨ R i < s)) (fun i => q - (intOf i).toNat)
          case atStart => exact ⟨0, Nat.zero_le _, rfl, fun u hu => by omega⟩
          case round =>
            obtain ⟨k, hk, rfl, K⟩ := hrel
            by_cases hkq : k < q
            · obtain ⟨b0, o0, rfl, hl0, hc0⟩ := h0.out.at (by omega)
              have e0 := hc0 k (by omega)
              clear hc0
              have hRk := hR.out k (by omega)
              obtain ⟨v, hv⟩ : ∃ v, v = R k := ⟨_, rfl⟩
              rw [← hv] at e0 hRk
              replace hv := hide hv
              by_cases hel : v = 2147483647
              · have hb1 : ((v : Int) == 2147483647) = true := by simp [hel]
                go_wp2_with fail
                go_round
                case rel =>
                  refine ⟨k + 1, by omega, by go_num, fun u hu => ?_⟩
                  by_cases e : u = k
                  · subst e
                    rw [← hv.out]
                    exact .inl hel
                  · exact K.out u (by omega)
                case measure => simp [intOf]; omega
              · have hb1 : ((v : Int) == 2147483647) = false := by simp; omega
                by_cases hvn : v < s
                · go_wp2_with fail
                  go_round
                  case rel =>
                    refine ⟨k + 1, by omega, by go_num, fun u hu => ?_⟩
                    by_cases e : u = k
                    · subst e
                      rw [← hv.out]
                      exact .inr hvn
                    · exact K.out u (by omega)
                  case measure => simp [intOf]; omega
                · have hb2 : ((v : Int) != 2147483647) = true := by simpa using hb1
                  have hvs : s ≤ v := by omega
                  go_wp2_with fail
                  go_ret
                  exact ⟨rfl, false, rfl, fun h => by cases h⟩
            · obtain rfl : k = q := by omega
              go_wp2_with fail
              go_ret
              refine ⟨rfl, true, rfl, fun _ => ⟨hn2, fun u hu => ?_, ?_, ?_⟩⟩
              · have := H.out u hu
                omega
              · rw [← hq.out]; exact hqN
              · rw [← hq.out]; exact K.out
        · go_wp2_with fail
          go_ret
          exact ⟨rfl, false, rfl, fun h => by cases h⟩
  · go_enter Try.func20, Try.ntmps20
    go_wp2
    go_ret
    exact ⟨rfl, false, rfl, fun h => by cases h⟩

end Go.Proofs.Qxb6003686a
