import Derived.Test.YbulkcmdiDoorExactProof
import Derived.Test.YbulkcmdiDoorWalkB
import Derived.Deep.Grids
namespace Go.Proofs.YbulkcmdiDoor
open Go.ChangeShapes Go.WideShapes Go.ChangeAt Go.RowKit
set_option linter.unusedVariables false
set_option linter.unusedSimpArgs false

theorem cells4 : Ybad.prog.cellsOf 4 = 1 := by kernel_rfl

theorem walk_all (c : Int) (a0 : Option Addr) (len cap : Nat) (bs : Nat → Bool) (limit : Int) (w : World) (c0 : 0 ≤ c) (c1 : c < 65536) (l0 : 0 ≤ limit) (l1 : limit ≤ 255)
    (hrow : ∀ j, j < len → ∃ x, a0 = some x ∧ w.cell? (x.add j) = some (.bool (bs j))) (ht : TableAt w) :
    Calls Ybad.prog 4 #[.int .u16 c, .slice a0 len cap, .int .u8 limit] w fun e w' => e = .returned (.bool true) ∧ Below w.heap.size w w' := by
  by_cases h : 1024 < len
  · exact walk_early c a0 len cap limit w (by omega)
  · exact walk_main c a0 len cap bs limit w (by omega) c0 c1 l0 l1 hrow ht (limit % 16).toNat (by omega) (by omega)

set_option maxRecDepth 100000 in
theorem walk_lifted (os : Os) (started : os.Started) (H : Type) (enc : TypeId × Value → H) :
    ReturnsInHanded {} Ybad.checked os 4 .any (fun w args => (Rows.lawS4402AWalkSpec.pre enc Ybad.prog Ybad.f4 [] false w args ∧ laidMetH Ybad.prog laid1 w) ∧ sizedMet enc Ybad.prog Ybad.f4 (OpenSpec.ofChange Rows.lawS4402AWalkSpec) false w args)
      (Rows.lawS4402AWalkSpec.post enc Ybad.prog Ybad.f4 false true false false) := by
  refine returnsInHanded_of_change_and (C := Ybad.checked) (X := fun w _ => laidMetH Ybad.prog laid1 w) (fun _ _ _ hh h => h.of_heap hh) own started (by kernel_rfl) Ybad.func4
    (ChangeSpec.witness_shaped (enc := enc) (C := Ybad.checked) (os := os) (X := fun w _ => laidMetH Ybad.prog laid1 w) false (World.doorLaid Ybad.prog 519 os) #[.int .u16 0, .slice none 0 0, .int .u8 0] 8 rfl (World.shaped_of_RefB (by kernel_rfl) (by kernel_rfl)) (by kernel_rfl) (by kernel_rfl) (by kernel_rfl) (door_met os _)) ?_
  intro W base args ds gs before hval0 hW _ _ hL _
  have hval : ∀ (j : Nat) t v, Ybad.f4.params[j]? = some t → args[j]? = some v → Value.okWide Ybad.prog W .any base t v := hval0
  have hW' := hW
  obtain ⟨p, q, hA0, hV0, rfl, hfz, hnd⟩ := hW
  have hA : DataW.TrodAll enc Ybad.prog W 0 (fun _ => true) true Ybad.f4.params.toList args.toList ds p := hA0
  have hV : DataW.TrodVars enc Ybad.prog W (fun _ => true) ["example.com/bitloom/bitloom/arith.cmRates"] gs q := hV0
  rw [Ybad.params4] at hA hval
  obtain ⟨v0, vs0, d0, ds0, p0, q0, hargs, rfl, rfl, h0, r0⟩ := trodAll_cons hA
  obtain ⟨v1, vs1, d1, ds1, p1, q1, rfl, rfl, rfl, h1, r1⟩ := trodAll_cons r0
  obtain ⟨v2, vs2, d2, ds2, p2, q2, rfl, rfl, rfl, h2, r2⟩ := trodAll_cons r1
  obtain ⟨rfl, rfl, rfl⟩ := trodAll_nil r2
  obtain rfl : args = #[v0, v1, v2] := by cases args; simp_all
  obtain ⟨a0, rfl, rfl, rfl, w0⟩ := open_int Ybad.underlying22 (hval 0 22 v0 rfl rfl) h0
  obtain ⟨a1, len1, cap1, rfl⟩ := okWide_slice Ybad.underlying27 (hval 1 27 v1 rfl rfl)
  have k1 := h1
  have lt1 : ∀ x ∈ p1, x.block < W.heap.size := by obtain ⟨m, hm⟩ := k1; exact DataW.trod_lt m _ _ _ hm
  obtain ⟨bs, hrow⟩ : ∃ bs : Nat → Bool, ∀ j, j < len1 → ∃ x, a1 = some x ∧ W.cell? (x.add j) = some (.bool (bs j)) := by
    obtain ⟨fuel, hf⟩ := h1
    rcases Go.Deep.open_bools Ybad.underlying27 Ybad.underlying4 cells4 hf with ⟨hcs, _⟩ | ⟨x, l, c, B, hcs, _, hl, hm, _, hcell⟩
    · simp [Value.cells] at hcs
      obtain ⟨rfl, rfl, rfl⟩ := hcs
      exact ⟨fun _ => false, fun j hj => absurd hj (Nat.not_lt_zero _)⟩
    · simp [Value.cells] at hcs
      obtain ⟨rfl, rfl, rfl⟩ := hcs
      exact ⟨B, fun j hj => ⟨x, rfl, hcell j (by omega)⟩⟩
  obtain ⟨a2, rfl, rfl, rfl, w2⟩ := open_int Ybad.underlying5 (hval 2 5 v2 rfl rfl) h2
  have ht := table_of_laid hL
  have b0 := bounds_u16 w0
  have b2 := bounds_u8 w2
  have hgs : ∃ g, gs = [g] := by
    obtain ⟨g, t, cs, fuel, d, p', rfl, _⟩ := trodVars_one hV
    exact ⟨d, rfl⟩
  obtain ⟨g, rfl⟩ := hgs
  clear hA0 hval0 hV0
  refine (walk_all a0 a1 len1 cap1 bs a2 W (by omega) (by omega) (by omega) (by omega) hrow ht).mono fun e W' ⟨he, bel⟩ => ?_
  have hVV := Below.trodVars laidOut bel (by kernel_rfl) hV
  subst he
  exact ⟨_, rfl, _, _, _, [], _, _, hW', trodAll_mk1 (shut_bool Ybad.underlying4 _), (trodAll_cons_mk (shut_int Ybad.underlying22 w0) (trodAll_cons_mk (Below.trod laidOut (by kernel_rfl) (of_decide_eq_true (by kernel_rfl)) k1 bel lt1) (trodAll_cons_mk (shut_int Ybad.underlying5 w2) trodAll_mk0))), hVV, bel.frame _, fun h => by cases h⟩

theorem walk_row : Rows.LawS4402AWalkSaid :=
  OpenClaim.holds_of_wide 4 Ybad.f4 rfl rfl rfl rfl rfl rfl rfl ⟨rfl, rfl, rfl, rfl, rfl⟩ rfl rfl rfl rfl rfl (by kernel_rfl) Ybad.func4 (by kernel_rfl)
    (of_decide_eq_true (by kernel_rfl)) (by unfold Func.isWrapper; first | (rw [if_pos (by decide +kernel)]; kernel_rfl) | (rw [if_neg (by decide +kernel)]; exact ⟨rfl, rfl⟩))
    (fun os started H enc _ => walk_lifted os started H enc)

/-- THE STATEMENT -/
theorem walk_card : Rows.LawS4402AWalkCardSaid :=
  Claim7.holds_tied_plain_at .later [] [.called] true (true, "c4a8508af04f63144ceda91c8664b89283bffeaba841596449af60ee170306ec") false
    walk_row (fun _ h => by cases h) (by kernel_rfl) (fun _ h => by cases h) lawS4402AWalk_row_tie rfl ⟨rfl, rfl⟩ (by kernel_rfl) rfl
    (fun f fn hf hfn => by
      obtain rfl : f = 4 := Option.some.inj ((show Ybad.prog.funcNamed "example.com/bitloom/bitloom/arith.LawS4402AWalk" = some 4 by kernel_rfl).symm.trans hf) |>.symm
      obtain rfl : fn = Ybad.f4 := (Option.some.inj (Ybad.func4.symm.trans hfn)).symm
      exact ⟨by kernel_rfl, fun j t ht => by
        rw [Ybad.params4] at ht
        have hm : t ∈ [22, 27, 5] := by simpa using Array.mem_of_getElem? ht
        have hall : ([22, 27, 5].all fun u => !Ybad.prog.wantsStandIn u) = true := by kernel_rfl
        exact (show Ybad.prog.wantsStandIn t = false by simpa using List.all_eq_true.1 hall t hm)⟩)
    (by kernel_rfl)
#print axioms walk_card
end Go.Proofs.YbulkcmdiDoor
