import Derived.Test.YbulkcmdiDoorRows
import Derived.Test.YbulkcmdiDoorTie
import Derived.Test.YbulkcmdiDoorCards
import Derived.Test.YbulkcmdiDoorExact
import Derived.WalkKit
import Derived.ProofKit
import Derived.LaidMore
import Derived.OpenShut
import Derived.ChangeOld
import Derived.OpenVars
import Derived.ChangeVars
import Derived.Stop.Joined
import Derived.SevenTiedAt
import Derived.Below
namespace Go.Proofs.YbulkcmdiDoor
open Go.ChangeShapes Go.WideShapes Go.ChangeAt Go.RowKit
set_option linter.unusedVariables false
set_option linter.unusedSimpArgs false

theorem own : ownKnob Ybad.prog.godebug = none := by kernel_rfl
theorem laidOut : laidOutB Ybad.prog = true := by kernel_rfl
theorem tRates : (Ybad.prog.globals[0]?).map (·.type) = some 31 := by kernel_rfl
theorem cells31 : Ybad.prog.cellsOf 31 = 16 := by kernel_rfl
theorem cells21 : Ybad.prog.cellsOf 21 = 1 := by kernel_rfl

def rates : List Int := [43690, 26214, 18724, 14563, 11915, 10082, 8738, 7710, 6898, 6241, 5698, 5242, 4854, 4519, 4228, 3971]
abbrev laid1 : List (String × DataW Unit) := [("example.com/bitloom/bitloom/arith.cmRates", Rows.laid_example_com_bitloom_bitloom_arith_cmRates)]

theorem door_met (os : Os) (args : Array Value) : laidMetH Ybad.prog laid1 ((World.doorLaid Ybad.prog 519 os).forCall (fun _ _ => 0) ⟨#[], args, []⟩).memory :=
  laidMetH_of_parts3 (fuel := 8) (laidMet_of_run' 8 (by kernel_rfl) (by kernel_rfl)) (by kernel_rfl) (by kernel_rfl)

theorem table_of_laid {W : World} (h : laidMetH Ybad.prog laid1 W) : TableAt W := by
  rw [MakeChecks.laidMetH_plain _ _ _ (by kernel_rfl)] at h
  have hT : Lib.TabIs Ybad.prog W "example.com/bitloom/bitloom/arith.cmRates" .i32 rates := Lib.tabIs_of_head gRates tRates Ybad.underlying31 Ybad.underlying21 cells21 cells31 h
  intro n hn
  rw [hT.cell gRates n hn]
  have : ∀ m : Nat, m < 16 → rates.getD m 0 = rate m := by decide
  rw [this n hn]

set_option maxRecDepth 100000 in
theorem exact_lifted (os : Os) (started : os.Started) (H : Type) (enc : TypeId × Value → H) :
    ReturnsInHanded {} Ybad.checked os 3 .any (fun w args => (Rows.lawS4402AExactSpec.pre enc Ybad.prog Ybad.f3 [] false w args ∧ laidMetH Ybad.prog laid1 w) ∧ sizedMet enc Ybad.prog Ybad.f3 (OpenSpec.ofChange Rows.lawS4402AExactSpec) false w args)
      (Rows.lawS4402AExactSpec.post enc Ybad.prog Ybad.f3 false true false false) := by
  refine returnsInHanded_of_change_and (C := Ybad.checked) (X := fun w _ => laidMetH Ybad.prog laid1 w) (fun _ _ _ hh h => h.of_heap hh) own started (by kernel_rfl) Ybad.func3
    (ChangeSpec.witness_shaped (enc := enc) (C := Ybad.checked) (os := os) (X := fun w _ => laidMetH Ybad.prog laid1 w) false (World.doorLaid Ybad.prog 519 os) #[.int .u16 0, .bool false, .int .u16 0] 8 rfl (World.shaped_of_RefB (by kernel_rfl) (by kernel_rfl)) (by kernel_rfl) (by kernel_rfl) (by kernel_rfl) (door_met os _)) ?_
  intro W base args ds gs before hval0 hW _ _ hL _
  have hval : ∀ (j : Nat) t v, Ybad.f3.params[j]? = some t → args[j]? = some v → Value.okWide Ybad.prog W .any base t v := hval0
  have hW' := hW
  obtain ⟨p, q, hA0, hV0, rfl, hfz, hnd⟩ := hW
  have hA : DataW.TrodAll enc Ybad.prog W 0 (fun _ => true) true Ybad.f3.params.toList args.toList ds p := hA0
  have hV : DataW.TrodVars enc Ybad.prog W (fun _ => true) ["example.com/bitloom/bitloom/arith.cmRates"] gs q := hV0
  rw [Ybad.params3] at hA hval
  obtain ⟨v0, vs0, d0, ds0, p0, q0, hargs, rfl, rfl, h0, r0⟩ := trodAll_cons hA
  obtain ⟨v1, vs1, d1, ds1, p1, q1, rfl, rfl, rfl, h1, r1⟩ := trodAll_cons r0
  obtain ⟨v2, vs2, d2, ds2, p2, q2, rfl, rfl, rfl, h2, r2⟩ := trodAll_cons r1
  obtain ⟨rfl, rfl, rfl⟩ := trodAll_nil r2
  obtain rfl : args = #[v0, v1, v2] := by cases args; simp_all
  obtain ⟨a0, rfl, rfl, rfl, w0⟩ := open_int Ybad.underlying22 (hval 0 22 v0 rfl rfl) h0
  obtain ⟨a1, rfl, rfl, rfl⟩ := open_bool Ybad.underlying4 (hval 1 4 v1 rfl rfl) h1
  obtain ⟨a2, rfl, rfl, rfl, w2⟩ := open_int Ybad.underlying22 (hval 2 22 v2 rfl rfl) h2
  have ht := table_of_laid hL
  have b0 := bounds_u16 w0
  have b2 := bounds_u16 w2
  have bel : Below W.heap.size W W := Below.refl _ _
  have hVV := Below.trodVars laidOut bel (by kernel_rfl) hV
  have hgs : ∃ g, gs = [g] := by
    obtain ⟨g, t, cs, fuel, d, p', rfl, _⟩ := trodVars_one hV
    exact ⟨d, rfl⟩
  obtain ⟨g, rfl⟩ := hgs
  clear hA0 hval0 hV0
  refine (exact_walk a0 a2 a1 W (by omega) (by omega) (by omega) (by omega) ht).mono fun e W' ⟨he, hw⟩ => ?_
  subst he; subst hw
  exact ⟨_, rfl, _, _, _, [], _, _, hW', trodAll_mk1 (shut_bool Ybad.underlying4 _), (trodAll_cons_mk (shut_int Ybad.underlying22 w0) (trodAll_cons_mk (shut_bool Ybad.underlying4 _) (trodAll_cons_mk (shut_int Ybad.underlying22 w2) trodAll_mk0))), hVV, bel.frame _, fun h => by cases h⟩

theorem exact_row : Rows.LawS4402AExactSaid :=
  OpenClaim.holds_of_wide 3 Ybad.f3 rfl rfl rfl rfl rfl rfl rfl ⟨rfl, rfl, rfl, rfl, rfl⟩ rfl rfl rfl rfl rfl (by kernel_rfl) Ybad.func3 (by kernel_rfl)
    (of_decide_eq_true (by kernel_rfl)) (by unfold Func.isWrapper; first | (rw [if_pos (by decide +kernel)]; kernel_rfl) | (rw [if_neg (by decide +kernel)]; exact ⟨rfl, rfl⟩))
    (fun os started H enc _ => exact_lifted os started H enc)

/-- THE STATEMENT -/
theorem exact_card : Rows.LawS4402AExactCardSaid :=
  Claim7.holds_tied_plain_at .later [] [.called] true (true, "c4a8508af04f63144ceda91c8664b89283bffeaba841596449af60ee170306ec") false
    exact_row (fun _ h => by cases h) (by kernel_rfl) (fun _ h => by cases h) lawS4402AExact_row_tie rfl ⟨rfl, rfl⟩ (by kernel_rfl) rfl
    (fun f fn hf hfn => by
      obtain rfl : f = 3 := Option.some.inj ((show Ybad.prog.funcNamed "example.com/bitloom/bitloom/arith.LawS4402AExact" = some 3 by kernel_rfl).symm.trans hf) |>.symm
      obtain rfl : fn = Ybad.f3 := (Option.some.inj (Ybad.func3.symm.trans hfn)).symm
      exact ⟨by kernel_rfl, fun j t ht => by
        rw [Ybad.params3] at ht
        have hm : t ∈ [22, 4, 22] := by simpa using Array.mem_of_getElem? ht
        have hall : ([22, 4, 22].all fun u => !Ybad.prog.wantsStandIn u) = true := by kernel_rfl
        exact (show Ybad.prog.wantsStandIn t = false by simpa using List.all_eq_true.1 hall t hm)⟩)
    (by kernel_rfl)
#print axioms exact_card
end Go.Proofs.YbulkcmdiDoor
