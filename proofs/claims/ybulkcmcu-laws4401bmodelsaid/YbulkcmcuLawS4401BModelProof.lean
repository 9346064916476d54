import Derived.Test.YbulkcmcuRows
import Derived.WalkKit
import Derived.ProofKit
import Derived.OpenShut
import Derived.ShutString
import Derived.ChangeOld
import Derived.Below
import Derived.Test.YbulkcmcuLawUnset
import Derived.Test.YbulkcmcuLawSet
import Derived.Test.YbulkcmcuLawBad
import Derived.Test.YbulkcmcuLawGood
namespace Go.Proofs.Ybulkcmcu.lawS4401BModel
open Go.ChangeShapes Go.WideShapes Go.ChangeAt Go.RowKit
open Go.ChangeMaps (open_string shut_string)
open Go.Proofs.Ybulkcmcu
set_option linter.unusedVariables false
set_option linter.unusedSimpArgs false

theorem own : ownKnob Yba.prog.godebug = none := by kernel_rfl
theorem laidOut : laidOutB Yba.prog = true := by kernel_rfl

/-- WHAT THE WALK IS TOLD OF A SLICE OF INTEGERS THAT CAME IN: it is nil; or it leads to a row of 'cap' cells, the numbers 'zs' (the first 'len' are its elements, the rest its spare room), each fitting its kind. -/
def IsRow (k : IntKind) (w : World) (a : Option Addr) (len cap : Nat) (zs : List Int) : Prop :=
  (a = none ∧ len = 0 ∧ cap = 0 ∧ zs = []) ∨
  ∃ x, a = some x ∧ len ≤ cap ∧ cap ≤ maxLen ∧ zs.length = cap ∧ (∀ i, i < zs.length → w.cell? (x.add i) = some (.int k (zs.getD i 0))) ∧ ∀ n ∈ zs, (Lit.int k n).wf = true

set_option maxRecDepth 100000 in
theorem early (a0 : Option Addr) (len0 cap0 : Nat) (a1 : Int) (a2 : Int) (a3 : Bool) (a4 : Int) (a5 : Int) (a6 : Bool) (w : World) (h : (1024 : Int) < len0) :
    Calls Yba.prog 3 #[.slice a0 len0 cap0, .int .u16 a1, .int .u64 a2, .bool a3, .int .u8 a4, .int .u8 a5, .bool a6] w fun e w' => e = .returned (.bool true) ∧ Below w.heap.size w w' := by
  go_enter Yba.func3, Yba.ntmps3
  go_wp2
  go_ret
  exact ⟨rfl, Below.refl _ _⟩

theorem core (a0 : Option Addr) (cap0 : Nat) (zs : List Int) (a1 a2 a4 a5 : Int) (a3 a6 : Bool) (w : World) (hl : zs.length ≤ 1024) (hby : ∀ j, 0 ≤ zs.getD j 0 ∧ zs.getD j 0 < 256)
    (hrow : ∀ j, j < zs.length → ∃ x, a0 = some x ∧ w.cell? (x.add j) = some (.int .u8 (zs.getD j 0)))
    (b10 : 0 ≤ a1) (b11 : a1 ≤ 65535) (b40 : 0 ≤ a4) (b41 : a4 ≤ 255) (b50 : 0 ≤ a5) (b51 : a5 ≤ 255) :
    Calls Yba.prog 3 #[.slice a0 zs.length cap0, .int .u16 a1, .int .u64 a2, .bool a3, .int .u8 a4, .int .u8 a5, .bool a6] w fun e w' => e = .returned (.bool true) ∧ Below w.heap.size w w' := by
  obtain ⟨o, ho, hol⟩ : ∃ o : Nat, a1 % ((zs.length : Int) * 8 + 1) = o ∧ o ≤ zs.length * 8 := by
    have h1 := Int.emod_nonneg a1 (b := (zs.length : Int) * 8 + 1) (by omega)
    have h2 := Int.emod_lt_of_pos a1 (b := (zs.length : Int) * 8 + 1) (by omega)
    exact ⟨(a1 % ((zs.length : Int) * 8 + 1)).toNat, by omega, by omega⟩
  obtain ⟨l, hll, hl64⟩ : ∃ l : Nat, a4 % 64 = l ∧ l < 64 := ⟨(a4 % 64).toNat, by omega, by omega⟩
  obtain ⟨m0, hmm, hm64⟩ : ∃ m0 : Nat, a5 % (64 - (l : Int)) = m0 ∧ (m0 : Int) < 64 - l := by
    have h1 := Int.emod_nonneg a5 (b := 64 - (l : Int)) (by omega)
    have h2 := Int.emod_lt_of_pos a5 (b := 64 - (l : Int)) (by omega)
    exact ⟨(a5 % (64 - (l : Int))).toNat, by omega, by omega⟩
  obtain ⟨t, htt⟩ : ∃ t : Nat, 64 - (l : Int) - (1 + m0) = t := ⟨(64 - (l : Int) - (1 + m0)).toNat, by omega⟩
  have hm64' : m0 < 64 := by omega
  rcases rV_1 zs o with hc | hc
  · cases a3
    · exact law_unset a0 cap0 zs a1 a2 a4 a5 a6 w hl hby hrow b10 b11 b40 b41 b50 b51 o l m0 t ho hll hmm htt hol hl64 hm64' hc
    · exact law_set a0 cap0 zs a1 a2 a4 a5 a6 w hl hby hrow b10 b11 b40 b41 b50 b51 o l m0 t ho hll hmm htt hol hl64 hm64' (1 + m0) (by omega) (by omega) (by omega) hc
  · have h6 := rV_6 zs (rO zs o 1)
    have h7 := rV_6 zs (rO zs (rO zs o 1) 6)
    obtain ⟨nl, hnl, hl6⟩ : ∃ nl : Nat, rV zs (rO zs o 1) 6 = nl ∧ nl < 64 := ⟨(rV zs (rO zs o 1) 6).toNat, by omega, by omega⟩
    obtain ⟨mv, hmv, hm6⟩ : ∃ mv : Nat, rV zs (rO zs (rO zs o 1) 6) 6 = mv ∧ mv < 64 := ⟨(rV zs (rO zs (rO zs o 1) 6) 6).toNat, by omega, by omega⟩
    obtain ⟨nm, hz, hm1⟩ : ∃ nm : Nat, ((((mv : Int) == 0) = true ∧ nm = 64) ∨ (((mv : Int) == 0) = false ∧ nm = mv)) ∧ 1 ≤ nm := by
      by_cases h : mv = 0
      · exact ⟨64, .inl ⟨by simp [h], rfl⟩, by omega⟩
      · exact ⟨mv, .inr ⟨by simp; omega, rfl⟩, by omega⟩
    by_cases hb : 64 < nl + nm
    · refine law_bad a0 cap0 zs a1 a2 a4 a5 a3 a6 w hl hby hrow b10 b11 b40 b41 b50 b51 o l m0 t ho hll hmm htt hol hl64 hm64' nl mv hnl hmv hl6 hm6 ?_ hc
      rcases hz with ⟨h1, h2⟩ | ⟨h1, h2⟩
      · exact .inl ⟨h1, by omega⟩
      · exact .inr ⟨h1, by omega⟩
    · exact law_good a0 cap0 zs a1 a2 a4 a5 a3 a6 w hl hby hrow b10 b11 b40 b41 b50 b51 o l m0 t ho hll hmm htt hol hl64 hm64' nl mv nm (64 - nl - nm) hnl hmv hl6 hm6 hz hm1 (by omega) (by omega) (by omega) hc

theorem getD_wf (zs : List Int) (h : ∀ n ∈ zs, (Lit.int .u8 n).wf = true) (j : Nat) : 0 ≤ zs.getD j 0 ∧ zs.getD j 0 < 256 := by
  rcases Nat.lt_or_ge j zs.length with hj | hj
  · have e : zs.getD j 0 = zs[j] := by simp [hj]
    have := bounds_u8 (h _ (List.getElem_mem hj))
    rw [e]; omega
  · have e : zs.getD j 0 = 0 := by simp [hj]
    rw [e]; omega

/-! ### STEP 1: THE WALK: the Go text returns true, AND WRITES NOTHING THAT WAS THERE: 'Below w.heap.size w w'' (Derived/Below.lean: '.refl', '.alloc', '.drew', '.setCell' at a new block, '.trans'). Open each 'IsRow' by 'rcases' AHEAD of 'go_enter'; part every test ahead of the walk. -/
theorem walk (a0 : Option Addr) (len0 cap0 : Nat) (z0 : List Int) (a1 : Int) (a2 : Int) (a3 : Bool) (a4 : Int) (a5 : Int) (a6 : Bool) (w : World) (w0 : IsRow .u8 w a0 len0 cap0 z0) (w1 : (Lit.int .u16 a1).wf = true) (w2 : (Lit.int .u64 a2).wf = true) (w4 : (Lit.int .u8 a4).wf = true) (w5 : (Lit.int .u8 a5).wf = true) :
    Calls Yba.prog 3 #[.slice a0 len0 cap0, .int .u16 a1, .int .u64 a2, .bool a3, .int .u8 a4, .int .u8 a5, .bool a6] w fun e w' => e = .returned (.bool true) ∧ Below w.heap.size w w' := by
  by_cases hbig : 1024 < len0
  · exact early a0 len0 cap0 a1 a2 a3 a4 a5 a6 w (by omega)
  · have q1 := bounds_u16 w1
    have q4 := bounds_u8 w4
    have q5 := bounds_u8 w5
    rcases w0 with ⟨rfl, rfl, rfl, rfl⟩ | ⟨x, rfl, hlc, hcm, hz, hcell, hwf⟩
    · exact core none 0 [] a1 a2 a4 a5 a3 a6 w (by simp) (fun j => by simp) (fun j hj => by simp at hj) (by omega) (by omega) (by omega) (by omega) (by omega) (by omega)
    · have hlen : (z0.take len0).length = len0 := by simp; omega
      have hget : ∀ j, j < len0 → (z0.take len0).getD j 0 = z0.getD j 0 := fun j hj => by simp [List.getElem?_take, hj]
      have key := core (some x) cap0 (z0.take len0) a1 a2 a4 a5 a3 a6 w (by omega) (getD_wf _ fun n hn => hwf n (List.mem_of_mem_take hn))
        (fun j hj => ⟨x, rfl, by rw [hget j (by omega)]; exact hcell j (by omega)⟩) (by omega) (by omega) (by omega) (by omega) (by omega) (by omega)
      rwa [hlen] at key

/-! ### THE ROW's STEP: WRITTEN OUT: LEAVE IT -/
set_option maxRecDepth 100000 in
theorem lifted (os : Os) (started : os.Started) (H : Type) (enc : TypeId × Value → H) :
    ReturnsInHanded {} Yba.checked os 3 .any (Rows.lawS4401BModelSpec.pre6 enc Yba.prog Yba.f3 Rows.lawS4401BModelRow.domain false) (Rows.lawS4401BModelSpec.post enc Yba.prog Yba.f3 false true false false) := by
  refine returnsInHanded_of_change (C := Yba.checked) own started (by kernel_rfl) Yba.func3
    (ChangeSpec.witness6 (enc := enc) (C := Yba.checked) false ⟨#[], #[.slice none 0 0, .int .u16 0, .int .u64 0, .bool false, .int .u8 0, .int .u8 0, .bool false], []⟩ 8 (by kernel_rfl) (by kernel_rfl) (by kernel_rfl) (by kernel_rfl)) ?_
  intro W base args ds gs before hval0 hW hcnd _
  have hval : ∀ (j : Nat) t v, Yba.f3.params[j]? = some t → args[j]? = some v → Value.okWide Yba.prog W .any base t v := hval0
  have hW' := hW
  obtain ⟨p, q, hA0, hV, rfl, hfz, hnd⟩ := hW
  have hA : DataW.TrodAll enc Yba.prog W 0 (fun _ => true) true Yba.f3.params.toList args.toList ds p := hA0
  rw [Yba.params3] at hA hval
  obtain ⟨v0, vs0, d0, ds0, p0, q0, hargs, rfl, rfl, h0, r0⟩ := trodAll_cons hA
  obtain ⟨v1, vs1, d1, ds1, p1, q1, rfl, rfl, rfl, h1, r1⟩ := trodAll_cons r0
  obtain ⟨v2, vs2, d2, ds2, p2, q2, rfl, rfl, rfl, h2, r2⟩ := trodAll_cons r1
  obtain ⟨v3, vs3, d3, ds3, p3, q3, rfl, rfl, rfl, h3, r3⟩ := trodAll_cons r2
  obtain ⟨v4, vs4, d4, ds4, p4, q4, rfl, rfl, rfl, h4, r4⟩ := trodAll_cons r3
  obtain ⟨v5, vs5, d5, ds5, p5, q5, rfl, rfl, rfl, h5, r5⟩ := trodAll_cons r4
  obtain ⟨v6, vs6, d6, ds6, p6, q6, rfl, rfl, rfl, h6, r6⟩ := trodAll_cons r5
  obtain ⟨rfl, rfl, rfl⟩ := trodAll_nil r6
  obtain rfl : args = #[v0, v1, v2, v3, v4, v5, v6] := by cases args; simp_all
  obtain ⟨rfl, rfl⟩ := trodVars_none hV
  obtain ⟨a0, len0, cap0, rfl⟩ := okWide_slice Yba.underlying22 (hval 0 22 v0 rfl rfl)
  have k0 := h0
  have lt0 : ∀ x ∈ p0, x.block < W.heap.size := by obtain ⟨m, hm⟩ := k0; exact DataW.trod_lt m _ _ _ hm
  obtain ⟨z0, w0⟩ : ∃ zs, IsRow .u8 W a0 len0 cap0 zs := by
    obtain ⟨fuel, hf⟩ := h0
    rcases open_ints Yba.underlying22 Yba.underlying5 (by kernel_rfl) hf with ⟨hcs, _⟩ | ⟨x, l, c, zs, hcs, _, hl, hm, hz, _, hcell, hwz⟩
    · simp [Value.cells] at hcs
      obtain ⟨rfl, rfl, rfl⟩ := hcs
      exact ⟨[], .inl ⟨rfl, rfl, rfl, rfl⟩⟩
    · simp [Value.cells] at hcs
      obtain ⟨rfl, rfl, rfl⟩ := hcs
      exact ⟨zs, .inr ⟨_, rfl, hl, hm, by simpa using hz, hcell, hwz⟩⟩
  obtain ⟨a1, rfl, rfl, rfl, w1⟩ := open_int Yba.underlying23 (hval 1 23 v1 rfl rfl) h1
  obtain ⟨a2, rfl, rfl, rfl, w2⟩ := open_int Yba.underlying24 (hval 2 24 v2 rfl rfl) h2
  obtain ⟨a3, rfl, rfl, rfl⟩ := open_bool Yba.underlying4 (hval 3 4 v3 rfl rfl) h3
  obtain ⟨a4, rfl, rfl, rfl, w4⟩ := open_int Yba.underlying5 (hval 4 5 v4 rfl rfl) h4
  obtain ⟨a5, rfl, rfl, rfl, w5⟩ := open_int Yba.underlying5 (hval 5 5 v5 rfl rfl) h5
  obtain ⟨a6, rfl, rfl, rfl⟩ := open_bool Yba.underlying4 (hval 6 4 v6 rfl rfl) h6
  clear hA0 hval0
  refine (walk a0 len0 cap0 z0 a1 a2 a3 a4 a5 a6 W w0 w1 w2 w4 w5).mono fun e W' ⟨he, bel⟩ => ?_
  subst he
  exact ⟨_, rfl, _, _, _, [], _, [], hW', trodAll_mk1 (shut_bool Yba.underlying4 _), (trodAll_cons_mk (Below.trod laidOut (by kernel_rfl) (of_decide_eq_true (by kernel_rfl)) k0 bel lt0) (trodAll_cons_mk (shut_int Yba.underlying23 w1) (trodAll_cons_mk (shut_int Yba.underlying24 w2) (trodAll_cons_mk (shut_bool Yba.underlying4 _) (trodAll_cons_mk (shut_int Yba.underlying5 w4) (trodAll_cons_mk (shut_int Yba.underlying5 w5) (trodAll_cons_mk (shut_bool Yba.underlying4 _) trodAll_mk0))))))), rfl, bel.frame _, fun h => by cases h⟩

theorem over : Rows.lawS4401BModelRow.holds Yba.pinned (OpenSpec.ofChange Rows.lawS4401BModelSpec) :=
  OpenClaim.holds_of_wide 3 Yba.f3 rfl rfl rfl rfl rfl rfl rfl ⟨rfl, rfl, rfl, rfl, rfl⟩ rfl rfl rfl rfl rfl (by kernel_rfl) Yba.func3 (by kernel_rfl)
    (of_decide_eq_true (by kernel_rfl)) (by unfold Func.isWrapper; first | (rw [if_pos (by decide +kernel)]; kernel_rfl) | (rw [if_neg (by decide +kernel)]; exact ⟨rfl, rfl⟩))
    (fun os started H enc _ => lifted os started H enc)

/-- ████ THE STATEMENT ████ -/
theorem proved : Rows.LawS4401BModelSaid := over
#print axioms proved
end Go.Proofs.Ybulkcmcu.lawS4401BModel
