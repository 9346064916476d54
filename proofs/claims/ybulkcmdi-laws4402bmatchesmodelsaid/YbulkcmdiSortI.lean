import Derived.Test.YbulkcmdiSortH
import Derived.Lib.ReflectliteSlice
import Derived.Lib.ReflectliteSwap
import Derived.Laws.Externs
namespace Go.Proofs.Ybulkcmdi
open Go.RowKit
set_option linter.unusedVariables false
set_option linter.unusedSimpArgs false

theorem info5_ex : ∃ i, Yba.prog.info? 5 = some i ∧ i.size = 1 ∧ i.bytes = 1 ∧ i.hasPointers = false := by
  have h : (Yba.prog.info? 5).map (fun i => (i.size, i.bytes, i.hasPointers)) = some (1, 1, false) := by kernel_rfl
  obtain ⟨i, hi, hz⟩ := Option.map_eq_some_iff.1 h
  simp only [Prod.mk.injEq] at hz
  exact ⟨i, hi, hz.1, hz.2.1, hz.2.2⟩
theorem info22_ex : ∃ i, Yba.prog.info? 22 = some i ∧ i.desc = .slice 5 := by
  have h := Yba.underlying22
  unfold Program.underlying at h
  cases hi : Yba.prog.info? 22 with
  | none => rw [hi] at h; cases h
  | some i =>
    have h2 : (Yba.prog.info? 22).map (·.desc) = some (.slice 5) := by kernel_rfl
    rw [hi] at h2
    exact ⟨i, rfl, Option.some.inj h2⟩
theorem kind5 (w : World) : (Extern.Rtype.kind 5).run Yba.prog w = .ok 8 w := by kernel_rfl
theorem agg5 (w : World) : (isAgg 5).run Yba.prog w = .ok false w := by kernel_rfl
theorem packed22 : Yba.prog.packed 22 = false := by kernel_rfl

theorem swapOK (V N c : Nat) : SwapOK 37 (.slice (some ⟨V, 0, none⟩) N c) (typeHandle Yba.prog 5) V N := by
  intro w f hf i j hi hj
  obtain ⟨ie, hie, hs, _, _⟩ := info5_ex
  have h := Lib.run_swap_one (P := Yba.prog) true 5 ie hie hs agg5 V 0 N c i j hi hj (.int .u8 (f i)) (.int .u8 (f j)) rfl rfl w (by rw [Nat.zero_add]; exact (hf i hi).1) (by rw [Nat.zero_add]; exact (hf j hj).1) (by rw [Nat.zero_add]; exact (hf i hi).2) (by rw [Nat.zero_add]; exact (hf j hj).2)
  rw [run_callFunc_extern Yba.func37 (by kernel_rfl) (by kernel_rfl) (by kernel_rfl) (e := Extern.ReflectliteSwapper.swap true) (by kernel_rfl), h]
  simp [Result.andThen]

set_option maxHeartbeats 1600000 in
set_option maxRecDepth 100000 in
theorem sst_u (LT : Int → Int → Prop) (tr : ∀ x y z, LT x y → LT y z → LT x z) (lt : Int → Int → Bool) (ag : Agree LT lt) (l1 l2 : Value) (V N c : Nat) (f : Nat → Int) (w : World) (h2 : 2 ≤ N) (hN : N ≤ 256)
    (hA : ArrF w V N f) (hV : V < w.heap.size) (hl : LessOK w V N l1 l2 lt) (hby : ∀ k, 0 ≤ f k ∧ f k < 256) (hasc : ∀ i j, i < j → j < N → f i < f j) :
    Calls Yba.prog 21 #[.iface 22 (.slice (some ⟨V, 0, none⟩) N c), .func (.func 22) #[] #[l1, l2]] w fun e w' => StPost LT V N f w e w' := by
  obtain ⟨ie, hie, hs, hbt, hpt⟩ := info5_ex
  obtain ⟨it, hit, hdt⟩ := info22_ex
  have hK : Lib.swapperK N ie 8 = 8 := by
    have c1 : (N == 0) = false := by simp; omega
    have d1 : (N == 1) = false := by simp; omega
    simp [Lib.swapperK, hpt, hbt, c1, d1]
  have hv := Lib.run_valueOf_slice (P := Yba.prog) 22 5 it hit hdt (some ⟨V, 0, none⟩) N c w
  have hsw := fun w => Lib.run_swapper_slice (P := Yba.prog) 22 5 it ie hit hdt hie 8 kind5 (some ⟨V, 0, none⟩) N c 37 (by rw [hK]; kernel_rfl) w
  rw [hK] at hsw
  simp only [show ¬ (8 ≤ 2) by decide, if_false] at hsw
  have hlen := fun a w ha => Lib.run_valueLen_slice (P := Yba.prog) 22 5 it hit hdt packed22 a (some ⟨V, 0, none⟩) N c w ha
  have hst : ∀ W, Srt w V N f W → Calls Yba.prog 27 #[pairV l1 l2 37 (.slice (some ⟨V, 0, none⟩) N c) (typeHandle Yba.prog 5), .int .i64 (N : Int)] W fun e w' => StPost LT V N f w e w' := by
    intro W hW
    refine (stable_u LT tr lt ag l1 l2 37 _ _ V N f W hN (swapOK V N c) hW.arr hW.lt (hl.rebase hW) hby hasc).mono ?_
    rintro e w' ⟨rfl, h, t, y, m⟩
    exact ⟨rfl, h, hW.rebase t, y, m⟩
  have HST := (show Hid _ from hst)
  have hS0 := Srt.start hA hV
  clear hst hl hby hasc ag tr hK
  generalize hTH : typeHandle Yba.prog 5 = TH at *
  have hg0 : Yba.prog.globals.size = 0 := by kernel_rfl
  simp only [typeHandle, hg0] at hv hlen
  clear hg0
  go_enter Yba.func21, Yba.ntmps21
  go_wp2
  rw [run_callFunc_extern Yba.func25 (by kernel_rfl) (by kernel_rfl) (by kernel_rfl) (e := fun args => Extern.ReflectliteValue.unpack (args.getD 0 (.tuple #[]))) (by kernel_rfl),
    show Sem.run Yba.prog ((fun args : Array Value => Extern.ReflectliteValue.unpack (args.getD 0 (.tuple #[]))) #[.iface 22 (.slice (some ⟨V, 0, none⟩) N c)]) w = _ from hv]
  simp only [Result.andThen]
  rw [Oper.upon_value]
  go_wp2
  rw [run_callFunc_extern Yba.func26 (by kernel_rfl) (by kernel_rfl) (by kernel_rfl) (e := Extern.ReflectliteSwapper.swapper "internal/reflectlite" (Extern.ReflectliteValue.valueError "Swapper")) (by kernel_rfl), hsw]
  simp only [Result.andThen]
  rw [Oper.upon_value]
  go_wp2
  rw [run_callFunc_extern Yba.func28 (by kernel_rfl) (by kernel_rfl) (by kernel_rfl) (e := Extern.ReflectliteValue.method (Extern.ReflectliteValue.valueError "reflectlite.Value.Len" 0) Extern.ReflectliteValue.len) (by kernel_rfl),
    hlen _ _ (by simp)]
  simp only [Result.andThen]
  rw [Oper.upon_value]
  go_wp2_with fail
  refine (HST.out _ ((hS0.alloc _).alloc _)).mono ?_
  rintro e w' ⟨rfl, hR⟩
  have HR := (show Hid _ from hR)
  clear hR
  go_wp2
  go_end0
  exact ⟨rfl, HR.out⟩
end Go.Proofs.Ybulkcmdi
