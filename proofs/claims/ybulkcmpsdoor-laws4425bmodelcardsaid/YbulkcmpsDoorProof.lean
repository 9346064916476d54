import Derived.Test.YbulkcmpsDoorRows
import Derived.Test.YbulkcmpsDoorTie
import Derived.Test.YbulkcmpsDoorCards
import Derived.Test.YbulkcmpsDoorWalkB
import Derived.WalkKit
import Derived.ProofKit
import Derived.LaidMore
import Derived.OpenShut
import Derived.ChangeOld
import Derived.OpenVars
import Derived.ChangeVars
import Derived.Stop.Joined
import Derived.SevenTiedAt
import Derived.Below
namespace Go.Proofs.YbulkcmpsDoor
open Go.ChangeShapes Go.WideShapes Go.ChangeAt Go.RowKit
set_option linter.unusedVariables false
set_option linter.unusedSimpArgs false

theorem own : ownKnob Ybad.prog.godebug = none := by kernel_rfl
theorem laidOut : laidOutB Ybad.prog = true := by kernel_rfl
theorem gNames : Ybad.prog.globalNamed "example.com/commonground/commonground/vss.kindNames" = some 0 := by kernel_rfl
theorem tNames : (Ybad.prog.globals[0]?).map (·.type) = some 39 := by kernel_rfl
theorem cells39 : Ybad.prog.cellsOf 39 = 7 := by kernel_rfl
theorem cells9 : Ybad.prog.cellsOf 9 = 1 := by kernel_rfl

abbrev laid1 : List (String × DataW Unit) := [("example.com/commonground/commonground/vss.kindNames", Rows.laid_example_com_commonground_commonground_vss_kindNames)]

theorem door_met (os : Os) (args : Array Value) : laidMetH Ybad.prog laid1 ((World.doorLaid Ybad.prog 14 os).forCall (fun _ _ => 0) ⟨#[], args, []⟩).memory :=
  laidMetH_of_parts3 (fuel := 8) (laidMet_of_run' 8 (by kernel_rfl) (by kernel_rfl)) (by kernel_rfl) (by kernel_rfl)

theorem bytes_eq (s t : ByteArray) (h : s.data.toList = t.data.toList) : s = t := by
  cases s; cases t
  simp only [ByteArray.mk.injEq]
  exact Array.toList_inj.1 h

theorem table_of_laid {W : World} (h : laidMetH Ybad.prog laid1 W) : TableAt W := by
  rw [MakeChecks.laidMetH_plain _ _ _ (by kernel_rfl)] at h
  obtain ⟨ps, ⟨g0, t0, cs0, f0, p0, q0, hg0, ht0, hv0, hd0, _, _⟩, _, _⟩ := h
  obtain rfl := Option.some.inj (gNames.symm.trans hg0)
  obtain rfl := Option.some.inj (tNames.symm.trans ht0)
  obtain ⟨xs, m1, rfl, hx1, hlen, hn, hel⟩ := DataW.trod_array Ybad.underlying39 hd0
  rw [cells9] at hel
  simp only [Prod.mk.injEq] at hx1
  have hx := hx1.1
  have hxs : ∀ i, i < 7 → (xs[i]?).map (·.1) = some (.lit (.string (names.getD i ⟨#[]⟩).data.toList)) := by
    have e : xs.map (·.1) = names.map (fun t => (DataW.lit (.string t.data.toList) : DataW Unit)) := by
      have := DataW.agg.inj hx
      exact this.symm
    intro i hi
    rw [← List.getElem?_map, e, List.getElem?_map]
    have hl : names.length = 7 := rfl
    simp [List.getElem?_eq_getElem (hl ▸ hi : i < names.length)]
  intro i hi
  obtain ⟨y, hy⟩ : ∃ y, xs[i]? = some y := ⟨xs[i]'(by omega), by simp [hn, hi]⟩
  have ht := hel i hi
  rw [hy, Nat.mul_one] at ht
  obtain ⟨s, e1, e2, _⟩ := DataW.trod_string Ybad.underlying9 ht
  have hyi := hxs i hi
  rw [hy, e2] at hyi
  simp only [Option.map_some, Option.some.injEq, DataW.lit.injEq, Lit.string.injEq] at hyi
  have hs := bytes_eq _ _ hyi
  have hc := World.var?_cell hg0 hv0 i
  rw [← hs]
  rw [hc]
  have : (cs0.toList.drop i)[0]? = some (.string s) := by
    have h2 : ((cs0.toList.drop i).take 1)[0]? = some (.string s) := by rw [e1]; rfl
    rwa [List.getElem?_take_of_lt (by decide)] at h2
  simpa [List.getElem?_drop] using this

set_option maxRecDepth 100000 in
theorem model_lifted (os : Os) (started : os.Started) (H : Type) (enc : TypeId × Value → H) :
    ReturnsInHanded {} Ybad.checked os 3 .any (fun w args => (Rows.lawS4425BModelSpec.pre enc Ybad.prog Ybad.f3 [] false w args ∧ laidMetH Ybad.prog laid1 w) ∧ sizedMet enc Ybad.prog Ybad.f3 (OpenSpec.ofChange Rows.lawS4425BModelSpec) false w args)
      (Rows.lawS4425BModelSpec.post enc Ybad.prog Ybad.f3 false true false false) := by
  refine returnsInHanded_of_change_and (C := Ybad.checked) (X := fun w _ => laidMetH Ybad.prog laid1 w) (fun _ _ _ hh h => h.of_heap hh) own started (by kernel_rfl) Ybad.func3
    (ChangeSpec.witness_shaped (enc := enc) (C := Ybad.checked) (os := os) (X := fun w _ => laidMetH Ybad.prog laid1 w) false (World.doorLaid Ybad.prog 14 os) #[.int .u8 0, .int .u8 0, .int .u8 0, .int .u8 0, .int .i64 0, .int .i64 0, .int .u64 0] 8 rfl (World.shaped_of_RefB (by kernel_rfl) (by kernel_rfl)) (by kernel_rfl) (by kernel_rfl) (by kernel_rfl) (door_met os _)) ?_
  intro W base args ds gs before hval0 hW _ _ hL _
  have hval : ∀ (j : Nat) t v, Ybad.f3.params[j]? = some t → args[j]? = some v → Value.okWide Ybad.prog W .any base t v := hval0
  have hW' := hW
  obtain ⟨p, q, hA0, hV0, rfl, hfz, hnd⟩ := hW
  have hA : DataW.TrodAll enc Ybad.prog W 0 (fun _ => true) true Ybad.f3.params.toList args.toList ds p := hA0
  have hV : DataW.TrodVars enc Ybad.prog W (fun _ => true) ["example.com/commonground/commonground/vss.kindNames"] gs q := hV0
  rw [Ybad.params3] at hA hval
  obtain ⟨v0, vs0, d0, ds0, p0, q0, hargs, rfl, rfl, h0, r0⟩ := trodAll_cons hA
  obtain ⟨v1, vs1, d1, ds1, p1, q1, rfl, rfl, rfl, h1, r1⟩ := trodAll_cons r0
  obtain ⟨v2, vs2, d2, ds2, p2, q2, rfl, rfl, rfl, h2, r2⟩ := trodAll_cons r1
  obtain ⟨v3, vs3, d3, ds3, p3, q3, rfl, rfl, rfl, h3, r3⟩ := trodAll_cons r2
  obtain ⟨v4, vs4, d4, ds4, p4, q4, rfl, rfl, rfl, h4, r4⟩ := trodAll_cons r3
  obtain ⟨v5, vs5, d5, ds5, p5, q5, rfl, rfl, rfl, h5, r5⟩ := trodAll_cons r4
  obtain ⟨v6, vs6, d6, ds6, p6, q6, rfl, rfl, rfl, h6, r6⟩ := trodAll_cons r5
  obtain ⟨rfl, rfl, rfl⟩ := trodAll_nil r6
  obtain rfl : args = #[v0, v1, v2, v3, v4, v5, v6] := by cases args; simp_all
  obtain ⟨a0, rfl, rfl, rfl, w0⟩ := open_int Ybad.underlying5 (hval 0 5 v0 rfl rfl) h0
  obtain ⟨a1, rfl, rfl, rfl, w1⟩ := open_int Ybad.underlying5 (hval 1 5 v1 rfl rfl) h1
  obtain ⟨a2, rfl, rfl, rfl, w2⟩ := open_int Ybad.underlying5 (hval 2 5 v2 rfl rfl) h2
  obtain ⟨a3, rfl, rfl, rfl, w3⟩ := open_int Ybad.underlying5 (hval 3 5 v3 rfl rfl) h3
  obtain ⟨a4, rfl, rfl, rfl, w4⟩ := open_int Ybad.underlying3 (hval 4 3 v4 rfl rfl) h4
  obtain ⟨a5, rfl, rfl, rfl, w5⟩ := open_int Ybad.underlying3 (hval 5 3 v5 rfl rfl) h5
  obtain ⟨a6, rfl, rfl, rfl, w6⟩ := open_int Ybad.underlying22 (hval 6 22 v6 rfl rfl) h6
  have ht := table_of_laid hL
  have b0 := bounds_u8 w0
  have b1 := bounds_u8 w1
  have hgs : ∃ g, gs = [g] := by
    obtain ⟨g, t, cs, fuel, d, p', rfl, _⟩ := trodVars_one hV
    exact ⟨d, rfl⟩
  obtain ⟨g, rfl⟩ := hgs
  obtain ⟨n0, rfl⟩ := Int.eq_ofNat_of_zero_le b0.1
  obtain ⟨n1, rfl⟩ := Int.eq_ofNat_of_zero_le b1.1
  clear hA0 hval0 hV0
  refine (law_u n0 n1 a2 a3 a4 a5 a6 W (by omega) (by omega) ht).mono fun e W' ⟨he, bel⟩ => ?_
  have hVV := Below.trodVars laidOut bel (by kernel_rfl) hV
  subst he
  exact ⟨_, rfl, _, _, _, [], _, _, hW', trodAll_mk1 (shut_bool Ybad.underlying4 _), (trodAll_cons_mk (shut_int Ybad.underlying5 w0) (trodAll_cons_mk (shut_int Ybad.underlying5 w1) (trodAll_cons_mk (shut_int Ybad.underlying5 w2) (trodAll_cons_mk (shut_int Ybad.underlying5 w3) (trodAll_cons_mk (shut_int Ybad.underlying3 w4) (trodAll_cons_mk (shut_int Ybad.underlying3 w5) (trodAll_cons_mk (shut_int Ybad.underlying22 w6) (trodAll_mk0)))))))), hVV, bel.frame _, fun h => by cases h⟩

theorem model_row : Rows.LawS4425BModelSaid :=
  OpenClaim.holds_of_wide 3 Ybad.f3 rfl rfl rfl rfl rfl rfl rfl ⟨rfl, rfl, rfl, rfl, rfl⟩ rfl rfl rfl rfl rfl (by kernel_rfl) Ybad.func3 (by kernel_rfl)
    (of_decide_eq_true (by kernel_rfl)) (by unfold Func.isWrapper; first | (rw [if_pos (by decide +kernel)]; kernel_rfl) | (rw [if_neg (by decide +kernel)]; exact ⟨rfl, rfl⟩))
    (fun os started H enc _ => model_lifted os started H enc)

/-- THE STATEMENT -/
theorem model_card : Rows.LawS4425BModelCardSaid :=
  Claim7.holds_tied_plain_at .later [] [.data] true (true, "eaa23d270b09e9f70892d9a11d1505ea717604424ac0fdaf37e60a346e493792") false
    model_row (fun _ h => by cases h) (by kernel_rfl) (fun _ h => by cases h) lawS4425BModel_row_tie rfl ⟨rfl, rfl⟩ (by kernel_rfl) rfl
    (fun f fn hf hfn => by
      obtain rfl : f = 3 := Option.some.inj ((show Ybad.prog.funcNamed "example.com/commonground/commonground/coin.LawS4425BModel" = some 3 by kernel_rfl).symm.trans hf) |>.symm
      obtain rfl : fn = Ybad.f3 := (Option.some.inj (Ybad.func3.symm.trans hfn)).symm
      exact ⟨by kernel_rfl, fun j t ht => by
        rw [Ybad.params3] at ht
        have hm : t ∈ [5, 5, 5, 5, 3, 3, 22] := by simpa using Array.mem_of_getElem? ht
        have hall : ([5, 5, 5, 5, 3, 3, 22].all fun u => !Ybad.prog.wantsStandIn u) = true := by kernel_rfl
        exact (show Ybad.prog.wantsStandIn t = false by simpa using List.all_eq_true.1 hall t hm)⟩)
    (by kernel_rfl)
#print axioms model_card
end Go.Proofs.YbulkcmpsDoor
