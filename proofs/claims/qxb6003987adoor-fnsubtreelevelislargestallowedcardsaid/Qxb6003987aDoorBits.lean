/-
  THE CONTRACTS OF math/bits.TrailingZeros64 AND Len64 OVER THIS PROGRAM (lines of the guide's worked shelf texts, turned), the table a hypothesis.
-/
import Derived.Test.Qxb6003987aDoorProg
import Derived.WalkKit
import Derived.WalkSpells
import Derived.WalkLawsBesides
import Derived.Laws.Bits64b
import Derived.Lib.TrailingZeros
import Derived.Lib.BitFns
import Derived.Deep.Light
namespace Go.Proofs.Qxb6003987aDoor
open Go.RowKit

theorem hide {p : Prop} (h : p) : Hid p := h

def TabAt (w : World) : Prop := ∀ j, j < 64 → w.cell? ⟨0, j, none⟩ = some (.int .u8 (Lib.deBruijn64tab.getD j 0))

set_option maxHeartbeats 1000000 in
theorem tz64_core (x k idx : Nat) (w : World) (hx0 : ((x : Int) == 0) = false)
    (key : IntKind.u64.wrap (bits BinOp.and IntKind.u64 (x : Int) (IntKind.u64.wrap (-(x : Int))) * 285870213051353865) / 288230376151711744 = (idx : Int))
    (hi : idx < 64) (hk : k < 64) (hcell : w.cell? ⟨0, idx, none⟩ = some (.int .u8 k)) :
    Calls Tryd.prog 7 #[.int .u64 x] w fun e w' => e = .returned (.int .i64 k) ∧ w' = w := by
  go_enter Tryd.func7, Tryd.ntmps7
  go_wp2_with (simp only [key])
  go_ret
  exact ⟨rfl, rfl⟩

theorem tz64_zero (w : World) : Calls Tryd.prog 7 #[.int .u64 0] w fun e w' => e = .returned (.int .i64 64) ∧ w' = w := by
  go_enter Tryd.func7, Tryd.ntmps7
  go_wp2
  go_ret
  exact ⟨rfl, rfl⟩

theorem tz64_key (x a : Nat) (hx : x < 18446744073709551616) (hx0 : x ≠ 0) (hlow : x &&& (18446744073709551616 - x) = a) :
    IntKind.u64.wrap (bits BinOp.and IntKind.u64 (x : Int) (IntKind.u64.wrap (-(x : Int))) * 285870213051353865) / 288230376151711744 = ((a * 285870213051353865 % 18446744073709551616 / 288230376151711744 : Nat) : Int) := by
  have e1 : IntKind.u64.wrap (-(x : Int)) = ((18446744073709551616 - x : Nat) : Int) := by rw [IntKind.wrap_u64]; omega
  rw [e1, bits_and_u64_nat x _ hx (by omega), hlow, IntKind.wrap_u64]
  omega

theorem tz64 (x : Nat) (hx : x < 18446744073709551616) (w : World) (hT : TabAt w) :
    Calls Tryd.prog 7 #[.int .u64 x] w fun e w' => e = .returned (.int .i64 (Lib.ctz 64 x)) ∧ w' = w := by
  by_cases hx0 : x = 0
  · subst hx0
    exact tz64_zero w
  · obtain ⟨hlow, hk⟩ := Lib.lowest_bit 64 x hx0 hx
    obtain ⟨hi, htab⟩ := Lib.deBruijn64_at _ hk
    have hcell := hT _ hi
    rw [htab] at hcell
    exact tz64_core x _ _ w (by simp; omega) (tz64_key x _ hx hx0 hlow) hi hk hcell

set_option maxRecDepth 100000 in
theorem len8tab_size : (Lib.len8tab.size : Int) = 256 := by
  have : Lib.len8tab.size = 256 := by decide
  omega
theorem wrap_add (k a b : Nat) (hk : k ≤ 56) (ha : a ≤ 8) (hb : b = k + a) : wrap64 ((k : Int) + wrap64 (a : Int)) = (b : Int) := by
  unfold wrap64
  omega
theorem wrap_wrap (a : Nat) (ha : a ≤ 8) : wrap64 (wrap64 (a : Int)) = (a : Int) := by
  unfold wrap64
  omega
theorem wrap_one (a : Nat) (ha : a ≤ 8) : wrap64 (a : Int) = (a : Int) := by
  unfold wrap64
  omega
theorem len8_get (y : Int) (h : y.toNat < Lib.len8tab.size) : ((Lib.len8tab[y.toNat]'h).toNat : Int) = Lib.len8 y := by
  unfold Lib.len8
  rw [getElem?_pos Lib.len8tab y.toNat h]
  rfl

set_option maxHeartbeats 32000000 in
set_option maxRecDepth 1000000 in
theorem len64 (x : Int) (w : World) (h0 : 0 ≤ x) (h1 : x ≤ 18446744073709551615) :
    Calls Tryd.prog 8 #[.int .u64 x] w fun e w' => e = .returned (.int .i64 (Lib.bitLen x.toNat)) ∧ w' = w := by
  go_enter Tryd.func8, Tryd.ntmps8
  go_wp2
  all_goals first
    | (go_ret; refine ⟨congrArg Ending.returned (congrArg (Value.int IntKind.i64) ?_), rfl⟩; go_light)
    | (exfalso
       go_light
       have hs := len8tab_size
       omega)
  all_goals first
    | (rw [len8_get (x / 4294967296 / 65536 / 256) _, Lib.len8_of (x / 4294967296 / 65536 / 256) (by omega) (by omega)]
       have e : (x / 4294967296 / 65536 / 256).toNat = x.toNat / 72057594037927936 := by omega
       have l := Lib.bitLen_le8' (x / 4294967296 / 65536 / 256) (by omega) (by omega)
       have s := Lib.bitLen_shift56 x.toNat (by omega) (by omega)
       rw [e] at l ⊢
       exact wrap_add 56 _ _ (by decide) l s)
    | (rw [len8_get (x / 4294967296 / 65536) _, Lib.len8_of (x / 4294967296 / 65536) (by omega) (by omega)]
       have e : (x / 4294967296 / 65536).toNat = x.toNat / 281474976710656 := by omega
       have l := Lib.bitLen_le8' (x / 4294967296 / 65536) (by omega) (by omega)
       have s := Lib.bitLen_shift48 x.toNat (by omega) (by omega)
       rw [e] at l ⊢
       exact wrap_add 48 _ _ (by decide) l s)
    | (rw [len8_get (x / 4294967296 / 256) _, Lib.len8_of (x / 4294967296 / 256) (by omega) (by omega)]
       have e : (x / 4294967296 / 256).toNat = x.toNat / 1099511627776 := by omega
       have l := Lib.bitLen_le8' (x / 4294967296 / 256) (by omega) (by omega)
       have s := Lib.bitLen_shift40 x.toNat (by omega) (by omega)
       rw [e] at l ⊢
       exact wrap_add 40 _ _ (by decide) l s)
    | (rw [len8_get (x / 4294967296) _, Lib.len8_of (x / 4294967296) (by omega) (by omega)]
       have e : (x / 4294967296).toNat = x.toNat / 4294967296 := by omega
       have l := Lib.bitLen_le8' (x / 4294967296) (by omega) (by omega)
       have s := Lib.bitLen_shift32 x.toNat (by omega) (by omega)
       rw [e] at l ⊢
       exact wrap_add 32 _ _ (by decide) l s)
    | (rw [len8_get (x / 65536 / 256) _, Lib.len8_of (x / 65536 / 256) (by omega) (by omega)]
       have e : (x / 65536 / 256).toNat = x.toNat / 16777216 := by omega
       have l := Lib.bitLen_le8' (x / 65536 / 256) (by omega) (by omega)
       have s := Lib.bitLen_shift24 x.toNat (by omega) (by omega)
       rw [e] at l ⊢
       exact wrap_add 24 _ _ (by decide) l s)
    | (rw [len8_get (x / 65536) _, Lib.len8_of (x / 65536) (by omega) (by omega)]
       have e : (x / 65536).toNat = x.toNat / 65536 := by omega
       have l := Lib.bitLen_le8' (x / 65536) (by omega) (by omega)
       have s := Lib.bitLen_shift16 x.toNat (by omega) (by omega)
       rw [e] at l ⊢
       exact wrap_add 16 _ _ (by decide) l s)
    | (rw [len8_get (x / 256) _, Lib.len8_of (x / 256) (by omega) (by omega)]
       have e : (x / 256).toNat = x.toNat / 256 := by omega
       have l := Lib.bitLen_le8' (x / 256) (by omega) (by omega)
       have s := Lib.bitLen_shift8 x.toNat (by omega) (by omega)
       rw [e] at l ⊢
       exact wrap_add 8 _ _ (by decide) l s)
    | (rw [len8_get (x) _, Lib.len8_of (x) (by omega) (by omega)]
       have e : (x).toNat = x.toNat := by omega
       have l := Lib.bitLen_le8' (x) (by omega) (by omega)
       rw [e] at l ⊢
       first | exact wrap_wrap _ l | exact wrap_add 0 _ _ (by decide) l (by omega) | exact wrap_one _ l)

end Go.Proofs.Qxb6003987aDoor
