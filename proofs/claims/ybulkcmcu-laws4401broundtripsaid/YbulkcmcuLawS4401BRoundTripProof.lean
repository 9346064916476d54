import Derived.Test.YbulkcmcuRows
import Derived.WalkKit
import Derived.ProofKit
import Derived.OpenShut
import Derived.ShutString
import Derived.Below
import Derived.Test.YbulkcmcuTrip
namespace Go.Proofs.Ybulkcmcu.lawS4401BRoundTrip
open Go.ChangeShapes Go.WideShapes Go.ChangeAt Go.RowKit
open Go.ChangeMaps (open_string shut_string)
set_option linter.unusedVariables false      -- a walk need not use every 'w<i>' (that an integer argument fits its kind)

open Go.Proofs.Ybulkcmcu
set_option linter.unusedSimpArgs false

theorem own : ownKnob Yba.prog.godebug = none := by kernel_rfl

/-! ### STEP 1: THE WALK: the Go text returns true. 'Grown w w'': the world has at most new blocks (Derived/RowKit3.lean). Part the cases AHEAD of 'go_enter' where a test parts the walk; take each callee by a contract of your own. -/
theorem walk (a0 : Int) (a1 : Int) (a2 : Int) (a3 : Int) (a4 : Int) (w0 : (Lit.int .u64 a0).wf = true) (w1 : (Lit.int .u8 a1).wf = true) (w2 : (Lit.int .u8 a2).wf = true) (w3 : (Lit.int .u64 a3).wf = true) (w4 : (Lit.int .u8 a4).wf = true) (w : World) :
    Calls Yba.prog 4 #[.int .u64 a0, .int .u8 a1, .int .u8 a2, .int .u64 a3, .int .u8 a4] w fun e w' => e = .returned (.bool true) ∧ Below w.heap.size w w' := by
  have q1 := bounds_u8 w1
  have q2 := bounds_u8 w2
  have q3 := bounds_u64 w3
  have q4 := bounds_u8 w4
  obtain ⟨l, hll, hl64⟩ : ∃ l : Nat, a1 % 64 = l ∧ l < 64 := ⟨(a1 % 64).toNat, by omega, by omega⟩
  obtain ⟨m0, hmm, hm64⟩ : ∃ m0 : Nat, a2 % (64 - (l : Int)) = m0 ∧ (m0 : Int) < 64 - l := by
    have h1 := Int.emod_nonneg a2 (b := 64 - (l : Int)) (by omega)
    have h2 := Int.emod_lt_of_pos a2 (b := 64 - (l : Int)) (by omega)
    exact ⟨(a2 % (64 - (l : Int))).toNat, by omega, by omega⟩
  obtain ⟨t, htt⟩ : ∃ t : Nat, 64 - (l : Int) - (1 + m0) = t := ⟨(64 - (l : Int) - (1 + m0)).toNat, by omega⟩
  obtain ⟨L, hL⟩ : ∃ L : Nat, (13 + (1 + (m0 : Int)) + 7) / 8 + a4 % 4 = L := ⟨((13 + (1 + (m0 : Int)) + 7) / 8 + a4 % 4).toNat, by omega⟩
  obtain ⟨mv, hm6⟩ : ∃ mv : Nat, (1 + (m0 : Int)) % 64 = mv := ⟨((1 + (m0 : Int)) % 64).toNat, by omega⟩
  by_cases hm : 1 + (m0 : Int) < 64
  · have hp := pow_le63 (1 + m0) (by omega)
    have hp0 := pow_two_pos (1 + m0)
    have hx : bits .and .u64 a3 (IntKind.u64.wrap (IntKind.u64.wrap (2 ^ (1 + m0)) - 1)) = a3 % 2 ^ (1 + m0) := by
      rw [u64_wrap_id (2 ^ (1 + m0)) (by omega) (by omega), u64_wrap_id _ (by omega) (by omega)]
      exact bits_mask .u64 64 (by decide) wraps_u64 (1 + m0) (by omega) a3 (by omega) (by omega)
    have h1 := Int.emod_nonneg a3 (b := 2 ^ (1 + m0)) (by omega)
    have h2 := Int.emod_lt_of_pos a3 hp0
    exact trip_a a0 a1 a2 a3 a4 w (by omega) (by omega) (by omega) (by omega) (by omega) (by omega) (by omega) (by omega) l m0 t L mv _ hll hmm htt hl64 hm hL hm6 hx h1 h2 (by omega)
  · obtain rfl : m0 = 63 := by omega
    have hx : bits .and .u64 a3 18446744073709551615 = a3 := by
      have := bits_mask .u64 64 (by decide) wraps_u64 64 (by decide) a3 (by omega) (by omega)
      rw [show ((2 : Int) ^ 64 - 1) = 18446744073709551615 by decide] at this
      rw [this]; exact Int.emod_eq_of_lt (by omega) (by omega)
    exact trip_b a0 a1 a2 a3 a4 w (by omega) (by omega) (by omega) (by omega) (by omega) (by omega) (by omega) (by omega) l 63 t L mv a3 hll hmm htt hl64 hm (by omega) hL hm6 hx (by omega) (by omega) (by omega)

/-! ### THE ROW's STEP: WRITTEN OUT: LEAVE IT -/
set_option maxRecDepth 100000 in
theorem lifted (os : Os) (started : os.Started) (H : Type) (enc : TypeId × Value → H) :
    ReturnsInHanded {} Yba.checked os 4 .any (Rows.lawS4401BRoundTripSpec.pre6 enc Yba.prog Yba.f4 Rows.lawS4401BRoundTripRow.domain false) (Rows.lawS4401BRoundTripSpec.post enc Yba.prog Yba.f4 false true false false) := by
  refine returnsInHanded_of_change (C := Yba.checked) own started (by kernel_rfl) Yba.func4
    (ChangeSpec.witness6 (enc := enc) (C := Yba.checked) false ⟨#[], #[.int .u64 0, .int .u8 0, .int .u8 0, .int .u64 0, .int .u8 0], []⟩ 8 (by kernel_rfl) (by kernel_rfl) (by kernel_rfl) (by kernel_rfl)) ?_
  intro W base args ds gs before hval0 hW hcnd _
  have hval : ∀ (j : Nat) t v, Yba.f4.params[j]? = some t → args[j]? = some v → Value.okWide Yba.prog W .any base t v := hval0
  have hW' := hW
  obtain ⟨p, q, hA0, hV, rfl, hfz, hnd⟩ := hW
  have hA : DataW.TrodAll enc Yba.prog W 0 (fun _ => true) true Yba.f4.params.toList args.toList ds p := hA0
  rw [Yba.params4] at hA hval
  obtain ⟨v0, vs0, d0, ds0, p0, q0, hargs, rfl, rfl, h0, r0⟩ := trodAll_cons hA
  obtain ⟨v1, vs1, d1, ds1, p1, q1, rfl, rfl, rfl, h1, r1⟩ := trodAll_cons r0
  obtain ⟨v2, vs2, d2, ds2, p2, q2, rfl, rfl, rfl, h2, r2⟩ := trodAll_cons r1
  obtain ⟨v3, vs3, d3, ds3, p3, q3, rfl, rfl, rfl, h3, r3⟩ := trodAll_cons r2
  obtain ⟨v4, vs4, d4, ds4, p4, q4, rfl, rfl, rfl, h4, r4⟩ := trodAll_cons r3
  obtain ⟨rfl, rfl, rfl⟩ := trodAll_nil r4
  obtain rfl : args = #[v0, v1, v2, v3, v4] := by cases args; simp_all
  obtain ⟨rfl, rfl⟩ := trodVars_none hV
  obtain ⟨a0, rfl, rfl, rfl, w0⟩ := open_int Yba.underlying24 (hval 0 24 v0 rfl rfl) h0
  obtain ⟨a1, rfl, rfl, rfl, w1⟩ := open_int Yba.underlying5 (hval 1 5 v1 rfl rfl) h1
  obtain ⟨a2, rfl, rfl, rfl, w2⟩ := open_int Yba.underlying5 (hval 2 5 v2 rfl rfl) h2
  obtain ⟨a3, rfl, rfl, rfl, w3⟩ := open_int Yba.underlying24 (hval 3 24 v3 rfl rfl) h3
  obtain ⟨a4, rfl, rfl, rfl, w4⟩ := open_int Yba.underlying5 (hval 4 5 v4 rfl rfl) h4
  clear hA0 hval0
  refine (walk a0 a1 a2 a3 a4 w0 w1 w2 w3 w4 W).mono fun e W' ⟨he, bel⟩ => ?_
  subst he
  exact ⟨_, rfl, _, _, _, [], _, [], hW', trodAll_mk1 (shut_bool Yba.underlying4 _), (trodAll_cons_mk (shut_int Yba.underlying24 w0) (trodAll_cons_mk (shut_int Yba.underlying5 w1) (trodAll_cons_mk (shut_int Yba.underlying5 w2) (trodAll_cons_mk (shut_int Yba.underlying24 w3) (trodAll_cons_mk (shut_int Yba.underlying5 w4) trodAll_mk0))))), rfl, bel.frame _, fun h => by cases h⟩

theorem over : Rows.lawS4401BRoundTripRow.holds Yba.pinned (OpenSpec.ofChange Rows.lawS4401BRoundTripSpec) :=
  OpenClaim.holds_of_wide 4 Yba.f4 rfl rfl rfl rfl rfl rfl rfl ⟨rfl, rfl, rfl, rfl, rfl⟩ rfl rfl rfl rfl rfl (by kernel_rfl) Yba.func4 (by kernel_rfl)
    (of_decide_eq_true (by kernel_rfl)) (by unfold Func.isWrapper; first | (rw [if_pos (by decide +kernel)]; kernel_rfl) | (rw [if_neg (by decide +kernel)]; exact ⟨rfl, rfl⟩))
    (fun os started H enc _ => lifted os started H enc)

/-- ████ THE STATEMENT ████ -/
theorem proved : Rows.LawS4401BRoundTripSaid :=
  over
#print axioms proved
end Go.Proofs.Ybulkcmcu.lawS4401BRoundTrip
