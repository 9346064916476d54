import Derived.Test.YbulkcmdiVarint
namespace Go.Proofs.Ybulkcmdi
open Go.RowKit
set_option linter.unusedVariables false
set_option linter.unusedSimpArgs false

set_option maxHeartbeats 800000 in
theorem ceq_u (ao bo : Option Addr) (n ca cb : Nat) (zs : List Int) (w : World) (hn : n = zs.length) (hl : n ≤ 100000) (ha : Rd w ao zs) (hb : Rd w bo zs) :
    Calls Yba.prog 14 #[.slice ao n ca, .slice bo n cb] w fun e w' => e = .returned (.bool true) ∧ ∃ m, w' = w.drewN m := by
  subst hn
  have HA : Hid (Rd w ao zs) := ha
  have HB : Hid (Rd w bo zs) := hb
  clear ha hb
  go_enter Yba.func14, Yba.ntmps14
  go_wp2
  go_loopw [5] (fun i wr => ∃ k : Nat, k ≤ zs.length ∧ i = .int .i64 k ∧ ∃ m, wr = w.drewN m) (fun i _ => zs.length - (intOf i).toNat)
  case atStart => exact ⟨0, Nat.zero_le _, rfl, 0, rfl⟩
  case round =>
    obtain ⟨k, hk, rfl, m, rfl⟩ := hrel
    by_cases hlt : k < zs.length
    · obtain ⟨x, hx, g1⟩ := HA.out k hlt
      obtain ⟨y, hy, g2⟩ := HB.out k hlt
      have hix : ∀ wx, Sem.run Yba.prog (Instr.indexAt 22 (.slice ao zs.length ca) (.int .i64 (k : Int))) wx = .ok (.pointer (some (x.add k))) wx := by
        intro wx
        rw [hx]
        have hk0 : (0 : Int) ≤ k := by omega
        have hk1 : (k : Int) < zs.length := by omega
        go_simp
      have hiy : ∀ wx, Sem.run Yba.prog (Instr.indexAt 22 (.slice bo zs.length cb) (.int .i64 (k : Int))) wx = .ok (.pointer (some (y.add k))) wx := by
        intro wx
        rw [hy]
        have hk0 : (0 : Int) ≤ k := by omega
        have hk1 : (k : Int) < zs.length := by omega
        go_simp
      clear hx hy
      go_wp2
      go_quiet (fail)
      go_wp2
      go_roundw
      case rel => exact ⟨k + 1, by omega, by go_num, _, rfl⟩
      case measure => simp [intOf]; omega
    · go_wp2
      go_ret
      exact ⟨rfl, m, rfl⟩

theorem final_u (top : Int) (w : World) (h0 : 0 ≤ top) (h1 : top ≤ 255) (low : Int) (hlow : low = top * 16777216) :
    Calls Yba.prog 24 #[.int .u32 low] w fun e w' => e = .returned (.int .u32 top) ∧ w' = w := by
  subst hlow
  have e : (top * 16777216 + 16777215) / 16777216 = top := by omega
  go_enter Yba.func24, Yba.ntmps24
  go_wp2
  go_ret
  exact ⟨congrArg (fun t => Ending.returned (Value.int .u32 t)) (show (top * 16777216 + 16777216 - 1) % 4294967296 / 16777216 = top by omega), rfl⟩

/-- Of what lay in w nothing has turned but blocks of R. -/
structure Fr (R : Nat → Prop) (w w' : World) : Prop where
  os : w'.os = w.os
  tape : w'.tape = w.tape
  output : w'.output = w.output
  size : w.heap.size ≤ w'.heap.size
  block : ∀ k, k < w.heap.size → ¬ R k → w'.heap[k]? = w.heap[k]?
theorem Fr.refl (R : Nat → Prop) (w : World) : Fr R w w := ⟨rfl, rfl, rfl, Nat.le_refl _, fun _ _ _ => rfl⟩
theorem Fr.trans {R : Nat → Prop} {a b c : World} (h : Fr R a b) (k : Fr R b c) : Fr R a c :=
  ⟨k.os.trans h.os, k.tape.trans h.tape, k.output.trans h.output, Nat.le_trans h.size k.size, fun i hi hR => (k.block i (Nat.lt_of_lt_of_le hi h.size) hR).trans (h.block i hi hR)⟩
theorem Fr.mono {R S : Nat → Prop} {a b : World} (h : Fr R a b) (hS : ∀ k, k < a.heap.size → R k → S k) : Fr S a b := ⟨h.os, h.tape, h.output, h.size, fun k hk hn => h.block k hk (fun hr => hn (hS k hk hr))⟩
theorem Fr.grown {w w' : World} {r : Option Nat} (h : w.grownBy w' r) : Fr (fun k => r = some k) w w' := ⟨h.os, h.tape, h.output, h.size, fun k hk hn => h.block k hk (fun e => hn e.symm)⟩
theorem Fr.alloc (R : Nat → Prop) (w : World) (o : Obj) : Fr R w (w.alloc o) := ⟨rfl, rfl, rfl, by simp, fun k hk _ => Below.heap_alloc _ _ _ hk⟩
theorem Fr.setCell {R : Nat → Prop} (w : World) {a : Addr} (h : R a.block) (u : Value) : Fr R w (w.setCell a u) := ⟨rfl, rfl, rfl, by simp [World.setCell], fun k hk hn => Below.heap_setCell _ _ _ _ (fun e => hn (by rw [e]; exact h))⟩
theorem Fr.drewN (R : Nat → Prop) (w : World) (n : Nat) : Fr R w (w.drewN n) := by
  have h := below_drewN (Below.refl w.heap.size w) n
  exact ⟨h.os, h.tape, h.output, h.size, fun k hk _ => h.block k hk⟩
theorem Fr.cell {R : Nat → Prop} {w w' : World} (h : Fr R w w') {p : Addr} (hp : p.block < w.heap.size) (hn : ¬ R p.block) : w'.cell? p = w.cell? p := World.cell?_of_block (w := w) (h.block p.block hp hn)
theorem Fr.frozen {R : Nat → Prop} {w w' : World} (h : Fr R w w') {p : Addr} (hp : p.block < w.heap.size) (hn : ¬ R p.block) : w'.frozen? p = w.frozen? p := World.frozen?_of_block (w := w) (h.block p.block hp hn)
theorem Fr.below {R : Nat → Prop} {B : Nat} {w w' : World} (h : Fr R w w') (hB : B ≤ w.heap.size) (hR : ∀ k, R k → B ≤ k) : Below B w w' := ⟨h.os, h.tape, h.output, h.size, fun k hk => h.block k (by omega) (fun hr => by have := hR k hr; omega)⟩

/-- Block C is a row of cells of type T, none of them frozen. -/
def TypAt (w : World) (C : Nat) (T : TypeId) : Prop := ∃ arr, w.heap[C]? = some (.cells arr T (0, 0))
theorem TypAt.setCell {w : World} {C : Nat} {T : TypeId} (h : TypAt w C T) (a : Addr) (u : Value) : TypAt (w.setCell a u) C T := by
  obtain ⟨arr, h⟩ := h
  by_cases e : C = a.block
  · subst e
    unfold TypAt World.setCell
    simp only [Array.getElem?_modify, if_true, h, Option.map_some]
    exact ⟨_, rfl⟩
  · exact ⟨arr, (Below.heap_setCell _ _ _ _ e).trans h⟩
theorem TypAt.fr {R : Nat → Prop} {w w' : World} {C : Nat} {T : TypeId} (h : TypAt w C T) (hf : Fr R w w') (hn : ¬ R C) : TypAt w' C T := by
  obtain ⟨arr, h⟩ := h
  exact ⟨arr, (hf.block C (by have := (Array.getElem?_eq_some_iff.1 h).1; exact this) hn).trans h⟩
theorem TypAt.lt {w : World} {C : Nat} {T : TypeId} (h : TypAt w C T) : C < w.heap.size := by obtain ⟨arr, h⟩ := h; exact (Array.getElem?_eq_some_iff.1 h).1
theorem TypAt.frozen {w : World} {C : Nat} {T : TypeId} (h : TypAt w C T) (o : Nat) : w.frozen? ⟨C, o, none⟩ = false := by
  obtain ⟨arr, h⟩ := h
  simp [World.frozen?, h]
theorem TypAt.new (w : World) (arr : Array Value) (T : TypeId) : TypAt (w.alloc (.cells arr T)) w.heap.size T := ⟨arr, heap_alloc_new w _⟩
theorem Own.ne {w : World} {base : Nat} {v : Value} {zs : List Int} {C : Nat} {T : TypeId} (h : Own w base v zs) (hC : TypAt w C T) (hT : T ≠ 5) : v.ownBlock ≠ some C := by
  intro e
  obtain ⟨arr, hC⟩ := hC
  obtain ⟨_, ⟨rfl, _⟩ | ⟨g, cap, cur, rfl, _, hh, _⟩⟩ := h
  · cases e
  · simp [Value.ownBlock] at e
    subst e
    rw [hh] at hC
    simp at hC
    exact hT hC.2.symm

set_option maxHeartbeats 800000 in
theorem encfin_u (C T base : Nat) (v : Value) (zs : List Int) (top low high : Int) (w : World) (h0 : 0 ≤ top) (h1 : top ≤ 255) (hlow : low = top * 16777216)
    (hC : TypAt w C T) (hT : T ≠ 5) (c0 : w.cell? ⟨C, 0, none⟩ = some (.int .u32 low)) (c1 : w.cell? ⟨C, 1, none⟩ = some (.int .u32 high)) (c2 : w.cell? ⟨C, 2, none⟩ = some v)
    (hown : Own w base v zs) (hl : zs.length ≤ 100000) (hbase : base ≤ w.heap.size) :
    Calls Yba.prog 19 #[.pointer (some ⟨C, 0, none⟩)] w fun e w' => ∃ v', e = .returned v' ∧ Own w' base v' (zs ++ (if top = 0 then [] else [top])) ∧ Fr (fun k => k = C ∨ v.ownBlock = some k) w w' ∧ TypAt w' C T ∧
      (w'.cell? ⟨C, 0, none⟩ = some (.int .u32 0) ∧ w'.cell? ⟨C, 1, none⟩ = some (.int .u32 4294967295) ∧ w'.cell? ⟨C, 2, none⟩ = some (.slice none 0 0)) ∧ ∀ o, 3 ≤ o → w'.cell? ⟨C, o, none⟩ = w.cell? ⟨C, o, none⟩ := by
  have HO : Hid (Own w base v zs) := hown
  have HL : Hid (low = top * 16777216) := hlow
  have hne := hown.ne hC hT
  have z0 := hC.frozen 0
  have z1 := hC.frozen 1
  have z2 := hC.frozen 2
  have HC : Hid (TypAt w C T) := hC
  have hfin : ∀ w1 : World, TypAt w1 C T → w1.cell? ⟨C, 0, none⟩ = some (.int .u32 low) → w1.cell? ⟨C, 1, none⟩ = some (.int .u32 high) → w1.cell? ⟨C, 2, none⟩ = some v → ∀ v' ys, Own w1 base v' ys → Fr (fun k => k = C ∨ v.ownBlock = some k) w w1 → (∀ o, w1.cell? ⟨C, o, none⟩ = w.cell? ⟨C, o, none⟩) →
      ∀ w', w' = ((w1.setCell ⟨C, 0, none⟩ (.int .u32 0)).setCell ⟨C, 1, none⟩ (.int .u32 4294967295)).setCell ⟨C, 2, none⟩ (.slice none 0 0) →
      Own w' base v' ys ∧ Fr (fun k => k = C ∨ v.ownBlock = some k) w w' ∧ TypAt w' C T ∧
      (w'.cell? ⟨C, 0, none⟩ = some (.int .u32 0) ∧ w'.cell? ⟨C, 1, none⟩ = some (.int .u32 4294967295) ∧ w'.cell? ⟨C, 2, none⟩ = some (.slice none 0 0)) ∧ ∀ o, 3 ≤ o → w'.cell? ⟨C, o, none⟩ = w.cell? ⟨C, o, none⟩ := by
    rintro w1 t1 d0 d1 d2 v' ys o1 f1 s1 w' rfl
    have hn := o1.ne t1 hT
    refine ⟨((o1.setCell hn _).setCell hn _).setCell hn _, ((f1.trans (Fr.setCell _ (.inl rfl) _)).trans (Fr.setCell _ (.inl rfl) _)).trans (Fr.setCell _ (.inl rfl) _), ((t1.setCell _ _).setCell _ _).setCell _ _, ⟨?_, ?_, ?_⟩, fun o ho => ?_⟩
    · rw [World.cell?_setCell_other _ _ _ _ (by simp), World.cell?_setCell_other _ _ _ _ (by simp)]; exact World.cell?_setCell_same _ _ _ d0
    · rw [World.cell?_setCell_other _ _ _ _ (by simp)]; exact World.cell?_setCell_same _ _ _ (by rw [World.cell?_setCell_other _ _ _ _ (by simp)]; exact d1)
    · exact World.cell?_setCell_same _ _ _ (by rw [World.cell?_setCell_other _ _ _ _ (by simp), World.cell?_setCell_other _ _ _ _ (by simp)]; exact d2)
    · rw [World.cell?_setCell_other _ _ _ _ (by simp <;> omega), World.cell?_setCell_other _ _ _ _ (by simp <;> omega), World.cell?_setCell_other _ _ _ _ (by simp <;> omega)]; exact s1 o
  have HF := (show Hid _ from hfin)
  clear hown hlow hC hfin
  by_cases ht : top = 0
  · have hte : (top == 0) = true := by simp [ht]
    have HT : Hid (top = 0) := ht
    clear ht
    go_enter Yba.func19, Yba.ntmps19
    go_wp2_with fail
    refine (final_u top _ h0 h1 low HL.out).mono ?_
    rintro e w1 ⟨rfl, rfl⟩
    go_wp2
    go_ret
    exact ⟨_, rfl, HF.out w1 HC.out c0 c1 c2 v zs HO.out (Fr.refl _ _) (fun _ => rfl) _ rfl⟩
  · have hte : (top == 0) = false := by simp [ht]
    have HT : Hid (¬ top = 0) := ht
    clear ht
    go_enter Yba.func19, Yba.ntmps19
    go_wp2_with fail
    refine (final_u top _ h0 h1 low HL.out).mono ?_
    rintro e w1 ⟨rfl, rfl⟩
    go_wp2_with (first | (at_builtin; refine wpList_append_bytes rfl _ _ rfl base v zs rfl (HO.out.alloc _) (some ⟨w1.heap.size, 0, none⟩) 1 1 [top] rfl rfl ?c1 (fun h => by cases h) (by omega) (by simp; omega) w1 ?c2 ?_))
    case c1 =>
      intro j hj
      have : j = 0 := by simpa using hj
      subst this
      exact ⟨_, rfl, by simp [Addr.add]⟩
    case c2 => exact (Below.refl _ _).alloc hbase _
    · intro v' w2 hown2 hb2 hg2
      have hCl := HC.out.lt
      have hf : Fr (fun k => k = C ∨ v.ownBlock = some k) w1 w2 := (Fr.alloc _ _ _).trans ((Fr.grown hg2).mono (fun k _ h => .inr h))
      have hs : ∀ o, w2.cell? ⟨C, o, none⟩ = w1.cell? ⟨C, o, none⟩ := fun o =>
        ((Fr.grown hg2).cell (p := ⟨C, o, none⟩) (by simp; omega) hne).trans ((Fr.alloc (fun _ => False) _ _).cell (p := ⟨C, o, none⟩) hCl (fun h => h))
      have t2 : TypAt w2 C T := (HC.out.fr (Fr.alloc (fun _ => False) _ _) (fun h => h)).fr (Fr.grown hg2) hne
      have e0 := (hs 0).trans c0
      have e1 := (hs 1).trans c1
      have e2 := (hs 2).trans c2
      have y0 := t2.frozen 0
      have y1 := t2.frozen 1
      have y2 := t2.frozen 2
      have HR := (show Hid _ from HF.out w2 t2 e0 e1 e2 v' (zs ++ [top]) hown2 hf hs)
      clear HF c0 c1 c2 hf hs t2 hown2 hb2 hg2 HC HO
      go_wp2
      go_ret
      exact ⟨_, rfl, HR.out _ rfl⟩
end Go.Proofs.Ybulkcmdi
