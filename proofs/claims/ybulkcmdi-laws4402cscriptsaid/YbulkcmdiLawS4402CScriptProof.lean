import Derived.Test.YbulkcmdiRows
import Derived.WalkKit
import Derived.ProofKit
import Derived.OpenShut
import Derived.ShutString
import Derived.ChangeOld
import Derived.Below
import Derived.Test.YbulkcmdiScriptW
import Derived.SizedLaws
import Derived.Deep.Slices
namespace Go.Proofs.Ybulkcmdi.lawS4402CScript
open Go.ChangeShapes Go.WideShapes Go.ChangeAt Go.RowKit
set_option linter.unusedVariables false
set_option linter.unusedSimpArgs false
open Go.Proofs.Ybulkcmdi

theorem own : ownKnob Yba.prog.godebug = none := by kernel_rfl
theorem laidOut : laidOutB Yba.prog = true := by kernel_rfl
theorem cells22 : Yba.prog.cellsOf 22 = 1 := by kernel_rfl
theorem cells5 : Yba.prog.cellsOf 5 = 1 := by kernel_rfl
theorem bytes5 : Yba.prog.bytesOf 5 = 1 := by kernel_rfl

theorem mem_all {H : Type} (P : Program) (e : TypeId) (n : Nat) : ∀ (l : List (DataW H)) (d : DataW H), d ∈ l → n ∈ d.weights P e → n ∈ DataW.weightsAll P e l
  | [], d, hd, _ => by cases hd
  | x :: l, d, hd, hn => by
    rw [DataW.weightsAll]
    rcases List.mem_cons.1 hd with rfl | hd
    · exact List.mem_append_left _ hn
    · exact List.mem_append_right _ (mem_all P e n l d hd hn)

/-- One piece, read. -/
structure Piece (W : World) (v : Value) (z : List Int) (o : Option Addr) (c : Nat) : Prop where
  eq : v = .slice o z.length c
  rd : Rd W o z
  nn : o = none → c = 0

theorem bytes_of_trod {H : Type} {enc : TypeId × Value → H} {W : World} {n : Nat} {v : Value} {d : DataW H} {p : List MemPlace} (h : DataW.trod enc Yba.prog W 0 (fun _ => true) true n 22 [v] = some (d, p)) (hw : ∀ k ∈ d.weights Yba.prog 22, k ≤ reachBytes) :
    ∃ z o c, Piece W v z o c ∧ z.length ≤ 140737488355328 := by
  rcases open_ints Yba.underlying22 Yba.underlying5 cells5 h with ⟨hcs, _⟩ | ⟨x, l, c, zs, hcs, _, hl, hm, hz, hx, hcell, hwz⟩
  · simp at hcs
    exact ⟨[], none, 0, ⟨hcs, fun j hj => by simp at hj, fun _ => rfl⟩, by simp⟩
  · simp at hcs
    have hz' : zs.length = c := by simpa using hz
    have hlen : (zs.take l).length = l := by simp; omega
    refine ⟨zs.take l, some x, c, ⟨by rw [hlen]; exact hcs, fun j hj => ⟨x, rfl, ?_⟩, fun h => by cases h⟩, ?_⟩
    · rw [hcell j (by omega)]
      have : (zs.take l).getD j 0 = zs.getD j 0 := by simp [List.getElem?_take, show j < l by omega]
      rw [this]
    · simp only [Prod.mk.injEq] at hx
      have hk := hw ((lits (H := H) IntKind.u8 (zs.take l)).length + (lits (H := H) IntKind.u8 (zs.drop l)).length) (by
        rw [hx.1]
        simp [DataW.weights, Yba.underlying22, bytes5])
      simp only [lits, List.length_map, List.length_take, List.length_drop, reachBytes] at hk
      omega

theorem pcs_of_trod {H : Type} {enc : TypeId × Value → H} {W : World} {fuel : Nat} {a1 : Option Addr} {len1 cap1 : Nat} {d : DataW H} {p : List MemPlace} (h : DataW.trod enc Yba.prog W 0 (fun _ => true) true fuel 26 [.slice a1 len1 cap1] = some (d, p)) (hw : ∀ k ∈ d.weights Yba.prog 26, k ≤ reachBytes) :
    ∃ (PS : List (List Int)) (ao : Nat → Option Addr) (cp : Nat → Nat), PS.length = len1 ∧ Pcs W a1 PS ao cp := by
  rcases Go.Deep.open_slice1 Yba.underlying26 cells22 h with ⟨hcs, _⟩ | ⟨x, l, c, m, n, V, D, Pl, hcs, _, hl, hm, hmm, hx, hel⟩
  · simp at hcs
    obtain ⟨rfl, rfl, rfl⟩ := hcs
    exact ⟨[], fun _ => none, fun _ => 0, rfl, ⟨fun i hi => by simp at hi, fun i hi => by simp at hi, fun i hi => by simp at hi, fun i hi => by simp at hi⟩⟩
  · simp at hcs
    obtain ⟨rfl, rfl, rfl⟩ := hcs
    simp only [if_true] at hmm
    subst hmm
    simp only [Prod.mk.injEq] at hx
    have hex : ∀ i, ∃ t : List Int × Option Addr × Nat, i < len1 → Piece W (V i) t.1 t.2.1 t.2.2 ∧ t.1.length ≤ 140737488355328 := by
      intro i
      by_cases hi : i < len1
      · obtain ⟨z, o, c, hp, hlen⟩ := bytes_of_trod (hel i (by omega)).2 (fun k hk => hw k (by
          rw [hx.1]
          simp only [DataW.weights, Yba.underlying26]
          refine List.mem_cons_of_mem _ (List.mem_append_left _ (mem_all _ _ _ _ (D i) ?_ hk))
          exact List.mem_map.2 ⟨i, List.mem_range.2 hi, rfl⟩))
        exact ⟨(z, o, c), fun _ => ⟨hp, hlen⟩⟩
      · exact ⟨([], none, 0), fun h => absurd h hi⟩
    obtain ⟨f, hf⟩ := Classical.axiomOfChoice hex
    have hg : ∀ i, i < len1 → ((List.range len1).map fun i => (f i).1).getD i [] = (f i).1 := fun i hi => by simp [hi]
    refine ⟨(List.range len1).map fun i => (f i).1, fun i => (f i).2.1, fun i => (f i).2.2, by simp, ⟨?_, ?_, ?_, ?_⟩⟩
    · intro i hi
      have hi' : i < len1 := by simpa using hi
      refine ⟨x, rfl, ?_⟩
      rw [hg i hi', ← (hf i hi').1.eq]
      exact (hel i (by omega)).1
    · intro i hi
      have hi' : i < len1 := by simpa using hi
      rw [hg i hi']
      exact (hf i hi').1.rd
    · intro i hi
      have hi' : i < len1 := by simpa using hi
      exact (hf i hi').1.nn
    · intro i hi
      have hi' : i < len1 := by simpa using hi
      rw [hg i hi']
      exact (hf i hi').2

/-- WHAT THE WALK IS TOLD OF A SLICE OF INTEGERS THAT CAME IN: it is nil; or it leads to a row of 'cap' cells, the numbers 'zs' (the first 'len' are its elements, the rest its spare room), each fitting its kind. -/
def IsRow (k : IntKind) (w : World) (a : Option Addr) (len cap : Nat) (zs : List Int) : Prop :=
  (a = none ∧ len = 0 ∧ cap = 0 ∧ zs = []) ∨
  ∃ x, a = some x ∧ len ≤ cap ∧ cap ≤ maxLen ∧ zs.length = cap ∧ (∀ i, i < zs.length → w.cell? (x.add i) = some (.int k (zs.getD i 0))) ∧ ∀ n ∈ zs, (Lit.int k n).wf = true

theorem rd_of_row {w : World} {a : Option Addr} {len cap : Nat} {zs : List Int} (h : IsRow .u8 w a len cap zs) : (zs.take len).length = len ∧ Rd w a (zs.take len) ∧ (a = none → cap = 0) := by
  rcases h with ⟨rfl, rfl, rfl, rfl⟩ | ⟨x, rfl, hl, _, hz, hc, _⟩
  · exact ⟨rfl, fun j hj => by simp at hj, fun _ => rfl⟩
  · have hlen : (zs.take len).length = len := by simp; omega
    refine ⟨hlen, fun j hj => ⟨x, rfl, ?_⟩, fun h => by cases h⟩
    rw [hc j (by omega)]
    have : (zs.take len).getD j 0 = zs.getD j 0 := by simp [List.getElem?_take, show j < len by omega]
    rw [this]

set_option maxRecDepth 100000 in
theorem early0 (a0 : Option Addr) (len0 cap0 : Nat) (a1 : Option Addr) (len1 cap1 : Nat) (a2 : Int) (w : World) (h : (1024 : Int) < len0) :
    Calls Yba.prog 4 #[.slice a0 len0 cap0, .slice a1 len1 cap1, .int .u8 a2] w fun e w' => e = .returned (.bool true) ∧ Below w.heap.size w w' := by
  go_enter Yba.func4, Yba.ntmps4
  go_wp2
  go_ret
  exact ⟨rfl, Below.refl _ _⟩
set_option maxRecDepth 100000 in
theorem early1 (a0 : Option Addr) (len0 cap0 : Nat) (a1 : Option Addr) (len1 cap1 : Nat) (a2 : Int) (w : World) (h0 : ¬ ((1024 : Int) < len0)) (h : (256 : Int) < len1) :
    Calls Yba.prog 4 #[.slice a0 len0 cap0, .slice a1 len1 cap1, .int .u8 a2] w fun e w' => e = .returned (.bool true) ∧ Below w.heap.size w w' := by
  go_enter Yba.func4, Yba.ntmps4
  go_wp2
  go_ret
  exact ⟨rfl, Below.refl _ _⟩

theorem walk (a0 : Option Addr) (len0 cap0 : Nat) (z0 : List Int) (a1 : Option Addr) (len1 cap1 : Nat) (PS : List (List Int)) (ao : Nat → Option Addr) (cp : Nat → Nat) (a2 : Int) (w : World) (w0 : IsRow .u8 w a0 len0 cap0 z0) (hPl : PS.length = len1) (hP : Pcs w a1 PS ao cp) (w2 : (Lit.int .u8 a2).wf = true) :
    Calls Yba.prog 4 #[.slice a0 len0 cap0, .slice a1 len1 cap1, .int .u8 a2] w fun e w' => e = .returned (.bool true) ∧ Below w.heap.size w w' := by
  by_cases hb0 : 1024 < len0
  · exact early0 a0 len0 cap0 a1 len1 cap1 a2 w (by omega)
  by_cases hb1 : 256 < len1
  · exact early1 a0 len0 cap0 a1 len1 cap1 a2 w (by omega) (by omega)
  obtain ⟨e0, r0, n0⟩ := rd_of_row w0
  have q2 := bounds_u8 w2
  have key := script_u a0 a1 cap0 cap1 (z0.take len0) PS ao cp a2 w (by omega) (by omega) (by omega) (by omega) r0 n0 hP
  rwa [e0, hPl] at key

set_option maxRecDepth 100000 in
theorem lifted (os : Os) (started : os.Started) (H : Type) (enc : TypeId × Value → H) :
    ReturnsInHanded {} Yba.checked os 4 .any (Rows.lawS4402CScriptSpec.pre6 enc Yba.prog Yba.f4 Rows.lawS4402CScriptRow.domain false) (Rows.lawS4402CScriptSpec.post enc Yba.prog Yba.f4 false true false false) := by
  refine returnsInHanded_of_change_sized (C := Yba.checked) own started (by kernel_rfl) Yba.func4
    (ChangeSpec.witness6 (enc := enc) (C := Yba.checked) false ⟨#[], #[.slice none 0 0, .slice none 0 0, .int .u8 0], []⟩ 8 (by kernel_rfl) (by kernel_rfl) (by kernel_rfl) (by kernel_rfl)) ?_
  intro W base args ds gs before hval0 hW hcnd hsz0 _
  have hval : ∀ (j : Nat) t v, Yba.f4.params[j]? = some t → args[j]? = some v → Value.okWide Yba.prog W .any base t v := hval0
  have hsz : (DataW.weightsEach Yba.prog (Yba.f4.params.toList ++ Rows.lawS4402CScriptSpec.plain.varTypes Yba.prog) (ds ++ gs)).all (· ≤ reachBytes) = true := hsz0
  have hW' := hW
  obtain ⟨p, q, hA0, hV, rfl, hfz, hnd⟩ := hW
  have hA : DataW.TrodAll enc Yba.prog W 0 (fun _ => true) true Yba.f4.params.toList args.toList ds p := hA0
  rw [Yba.params4] at hA hval hsz
  obtain ⟨v0, vs0, d0, ds0, p0, q0, hargs, rfl, rfl, h0, r0⟩ := trodAll_cons hA
  obtain ⟨v1, vs1, d1, ds1, p1, q1, rfl, rfl, rfl, h1, r1⟩ := trodAll_cons r0
  obtain ⟨v2, vs2, d2, ds2, p2, q2, rfl, rfl, rfl, h2, r2⟩ := trodAll_cons r1
  obtain ⟨rfl, rfl, rfl⟩ := trodAll_nil r2
  obtain rfl : args = #[v0, v1, v2] := by cases args; simp_all
  obtain ⟨rfl, rfl⟩ := trodVars_none hV
  obtain ⟨a0, len0, cap0, rfl⟩ := okWide_slice Yba.underlying22 (hval 0 22 v0 rfl rfl)
  have k0 := h0
  have lt0 : ∀ x ∈ p0, x.block < W.heap.size := by obtain ⟨m, hm⟩ := k0; exact DataW.trod_lt m _ _ _ hm
  obtain ⟨z0, w0⟩ : ∃ zs, IsRow .u8 W a0 len0 cap0 zs := by
    obtain ⟨fuel, hf⟩ := h0
    rcases open_ints Yba.underlying22 Yba.underlying5 (by kernel_rfl) hf with ⟨hcs, _⟩ | ⟨x, l, c, zs, hcs, _, hl, hm, hz, _, hcell, hwz⟩
    · simp [Value.cells] at hcs
      obtain ⟨rfl, rfl, rfl⟩ := hcs
      exact ⟨[], .inl ⟨rfl, rfl, rfl, rfl⟩⟩
    · simp [Value.cells] at hcs
      obtain ⟨rfl, rfl, rfl⟩ := hcs
      exact ⟨zs, .inr ⟨_, rfl, hl, hm, by simpa using hz, hcell, hwz⟩⟩
  obtain ⟨a1, len1, cap1, rfl⟩ := okWide_slice Yba.underlying26 (hval 1 26 v1 rfl rfl)
  have k1 := h1
  have lt1 : ∀ x ∈ p1, x.block < W.heap.size := by obtain ⟨m, hm⟩ := k1; exact DataW.trod_lt m _ _ _ hm
  obtain ⟨PS, ao, cp, hPl, hP⟩ : ∃ PS ao cp, PS.length = len1 ∧ Pcs W a1 PS ao cp := by
    obtain ⟨fuel, hf⟩ := h1
    refine pcs_of_trod hf (fun k hk => ?_)
    have := List.all_eq_true.1 hsz _ (DataW.weights_mem_each (j := 1) (t := 26) rfl rfl k hk)
    simpa using this
  obtain ⟨a2, rfl, rfl, rfl, w2⟩ := open_int Yba.underlying5 (hval 2 5 v2 rfl rfl) h2
  clear hA0 hval0 hsz0 hsz
  refine (walk a0 len0 cap0 z0 a1 len1 cap1 PS ao cp a2 W w0 hPl hP w2).mono fun e W' ⟨he, bel⟩ => ?_
  subst he
  exact ⟨_, rfl, _, _, _, [], _, [], hW', trodAll_mk1 (shut_bool Yba.underlying4 _), (trodAll_cons_mk (Below.trod laidOut (by kernel_rfl) (of_decide_eq_true (by kernel_rfl)) k0 bel lt0) (trodAll_cons_mk (Below.trod laidOut (by kernel_rfl) (of_decide_eq_true (by kernel_rfl)) k1 bel lt1) (trodAll_cons_mk (shut_int Yba.underlying5 w2) trodAll_mk0))), rfl, bel.frame _, fun h => by cases h⟩

theorem over : Rows.lawS4402CScriptRow.holds Yba.pinned (OpenSpec.ofChange Rows.lawS4402CScriptSpec) :=
  OpenClaim.holds_of_wide 4 Yba.f4 rfl rfl rfl rfl rfl rfl rfl ⟨rfl, rfl, rfl, rfl, rfl⟩ rfl rfl rfl rfl rfl (by kernel_rfl) Yba.func4 (by kernel_rfl)
    (of_decide_eq_true (by kernel_rfl)) (by unfold Func.isWrapper; first | (rw [if_pos (by decide +kernel)]; kernel_rfl) | (rw [if_neg (by decide +kernel)]; exact ⟨rfl, rfl⟩))
    (fun os started H enc _ => lifted os started H enc)

/-- THE STATEMENT -/
theorem proved : Rows.LawS4402CScriptSaid := over
#print axioms proved
end Go.Proofs.Ybulkcmdi.lawS4402CScript
