/-
  The proof of Rows.FnSubtreeLevelIsLargestAllowedCardSaid: the row (the listed table opened), then the tied card.
-/
import Derived.Test.Qxb6003987aDoorRows
import Derived.Test.Qxb6003987aDoorTie
import Derived.Test.Qxb6003987aDoorCards
import Derived.Test.Qxb6003987aDoorLevel
import Derived.ProofKit
import Derived.LaidMore
import Derived.OpenShut
import Derived.Stop.Joined
import Derived.Lib.LaidTab
import Derived.SevenTiedAt
namespace Go.Proofs.Qxb6003987aDoor.largest
open Go.ChangeShapes Go.WideShapes Go.ChangeAt Go.RowKit

theorem own : ownKnob Tryd.prog.godebug = none := by kernel_rfl

def tabName : String := Rows.fnSubtreeLevelIsLargestAllowedRow.named.headD ""
def laid1 : List (String × DataW Unit) := Rows.fnSubtreeLevelIsLargestAllowedRow.laid
def zs : List Int := Lib.deBruijn64tab.map fun (x : Nat) => (x : Int)

theorem gTab : Tryd.prog.globalNamed tabName = some 0 := by kernel_rfl
theorem tTab : (Tryd.prog.globals[0]?).map (·.type) = some 28 := by kernel_rfl
theorem laid_eq : laid1 = [(tabName, Lib.tabData .u8 zs)] := by rfl

/-- The door's own heap meets the condition: three closed facts. -/
theorem door_met (os : Os) (args : Array Value) : laidMetH Tryd.prog laid1 ((World.doorLaid Tryd.prog 14 os).forCall (fun _ _ => 0) ⟨#[], args, []⟩).memory :=
  laidMetH_of_parts3 (fuel := 8) (laidMet_of_run' 8 (by kernel_rfl) (by kernel_rfl)) (by kernel_rfl) (by kernel_rfl)

theorem zs_len : zs.length = 64 := by decide

/-- WHAT THE CONDITION GIVES THE WALKS: the table's cells. -/
theorem of_laid {W : World} (h : laidMetH Tryd.prog laid1 W) : TabAt W := by
  rw [MakeChecks.laidMetH_plain _ _ _ (by kernel_rfl), laid_eq] at h
  have ht := Lib.tabIs_of_head gTab tTab Tryd.underlying28 Tryd.underlying5 (by kernel_rfl) (by kernel_rfl) h
  intro j hj
  have hc := ht.cell gTab j (by rw [zs_len]; exact hj)
  rw [hc]
  have e : ∀ j, j < 64 → zs.getD j 0 = ((Lib.deBruijn64tab.getD j 0 : Nat) : Int) := by decide
  rw [e j hj]

set_option maxRecDepth 100000 in
theorem lifted (os : Os) (started : os.Started) (H : Type) (enc : TypeId × Value → H) :
    ReturnsInHanded {} Tryd.checked os 3 .any (fun w args => (Rows.fnSubtreeLevelIsLargestAllowedSpec.pre enc Tryd.prog Tryd.f3 [] false w args ∧ laidMetH Tryd.prog laid1 w) ∧ sizedMet enc Tryd.prog Tryd.f3 (OpenSpec.ofChange Rows.fnSubtreeLevelIsLargestAllowedSpec) false w args)
      (Rows.fnSubtreeLevelIsLargestAllowedSpec.post enc Tryd.prog Tryd.f3 false true false false) := by
  refine returnsInHanded_of_change_and (C := Tryd.checked) (X := fun w _ => laidMetH Tryd.prog laid1 w) (fun _ _ _ hh h => h.of_heap hh) own started (by kernel_rfl) Tryd.func3
    (ChangeSpec.witness_shaped (enc := enc) (C := Tryd.checked) (os := os) (X := fun w _ => laidMetH Tryd.prog laid1 w) false (World.doorLaid Tryd.prog 14 os) #[.int .u64 0, .int .u64 0, .int .u64 0] 8 rfl (World.shaped_of_RefB (by kernel_rfl) (by kernel_rfl)) (by kernel_rfl) (by kernel_rfl) (by kernel_rfl) (door_met os _)) ?_
  intro W base args ds gs before hval0 hW _ _ hL _
  have hval : ∀ (j : Nat) t v, Tryd.f3.params[j]? = some t → args[j]? = some v → Value.okWide Tryd.prog W .any base t v := hval0
  have hW' := hW
  obtain ⟨p, q, hA0, hV, rfl, hfz, hnd⟩ := hW
  have hA : DataW.TrodAll enc Tryd.prog W 0 (fun _ => true) true Tryd.f3.params.toList args.toList ds p := hA0
  rw [Tryd.params3] at hA hval
  obtain ⟨v0, v1, v2, d0, d1, d2, p0, p1, p2, rfl, rfl, rfl, h0, h1, h2⟩ := trodAll_three hA
  obtain ⟨rfl, rfl⟩ := trodVars_none hV
  obtain ⟨a, rfl, rfl, rfl, wa⟩ := open_int Tryd.underlying22 (hval 0 22 v0 rfl rfl) h0
  obtain ⟨b, rfl, rfl, rfl, wb⟩ := open_int Tryd.underlying22 (hval 1 22 v1 rfl rfl) h1
  obtain ⟨c, rfl, rfl, rfl, wc⟩ := open_int Tryd.underlying22 (hval 2 22 v2 rfl rfl) h2
  have hT := of_laid hL
  clear hA0 hval0
  simp only [List.append_nil] at hW'
  have ra : 0 ≤ a ∧ a ≤ 18446744073709551615 := by simpa [Lit.wf, IntKind.signed, IntKind.bits, IntKind.min, IntKind.max] using wa
  have rb : 0 ≤ b ∧ b ≤ 18446744073709551615 := by simpa [Lit.wf, IntKind.signed, IntKind.bits, IntKind.min, IntKind.max] using wb
  have rc : 0 ≤ c ∧ c ≤ 18446744073709551615 := by simpa [Lit.wf, IntKind.signed, IntKind.bits, IntKind.min, IntKind.max] using wc
  have walk := law_walk a.toNat b.toNat c.toNat (by omega) (by omega) (by omega) W hT
  rw [Int.toNat_of_nonneg ra.1, Int.toNat_of_nonneg rb.1, Int.toNat_of_nonneg rc.1] at walk
  refine walk.mono fun e W' ⟨he, hw⟩ => ?_
  subst he; subst hw
  exact ⟨_, rfl, post_of_same (pa := []) (pv := []) hW' (fun _ _ _ => trodAll_mk1 (shut_bool Tryd.underlying4 _)) (fun sp _ => trodAll_mk3 (shut_int Tryd.underlying22 wa) (shut_int Tryd.underlying22 wb) (shut_int Tryd.underlying22 wc)) (fun _ _ => rfl) rfl
    (World.keptBut_refl _ _) (fun _ => rfl) (ok_one (by kernel_rfl) rfl (okWide_bool_mk Tryd.underlying4 _))⟩

theorem row_holds : Rows.FnSubtreeLevelIsLargestAllowedSaid :=
  OpenClaim.holds_of_wide 3 Tryd.f3 rfl rfl rfl rfl rfl rfl rfl ⟨rfl, rfl, rfl, rfl, rfl⟩ rfl rfl rfl rfl rfl (by kernel_rfl) Tryd.func3 (by kernel_rfl)
    (of_decide_eq_true (by kernel_rfl)) (by unfold Func.isWrapper; first | (rw [if_pos (by decide +kernel)]; kernel_rfl) | (rw [if_neg (by decide +kernel)]; exact ⟨rfl, rfl⟩))
    (fun os started H enc _ => lifted os started H enc)

theorem proved : Rows.FnSubtreeLevelIsLargestAllowedCardSaid :=
  Claim7.holds_tied_plain_at .later [] [.data] true Rows.fnSubtreeLevelIsLargestAllowedCard.stood.harness false
    row_holds (fun _ h => by cases h) (by kernel_rfl) (fun _ h => by cases h) fnSubtreeLevelIsLargestAllowed_row_tie rfl ⟨rfl, rfl⟩ (by kernel_rfl) rfl
    (fun f fn hf hfn => by
      obtain rfl : f = 3 := Option.some.inj ((show Tryd.prog.funcNamed Rows.fnSubtreeLevelIsLargestAllowedRow.func = some 3 by kernel_rfl).symm.trans hf) |>.symm
      obtain rfl : fn = Tryd.f3 := (Option.some.inj (Tryd.func3.symm.trans hfn)).symm
      exact ⟨by kernel_rfl, fun j t ht => by
        rw [Tryd.params3] at ht
        have hm : t ∈ [22, 22, 22] := by simpa using Array.mem_of_getElem? ht
        have hall : ([22, 22, 22].all fun u => !Tryd.prog.wantsStandIn u) = true := by kernel_rfl
        exact (show Tryd.prog.wantsStandIn t = false by simpa using List.all_eq_true.1 hall t hm)⟩)
    (by kernel_rfl)
end Go.Proofs.Qxb6003987aDoor.largest
