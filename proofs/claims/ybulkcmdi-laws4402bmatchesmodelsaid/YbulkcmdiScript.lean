import Derived.Test.YbulkcmdiCount
import Derived.Lib.SliceRun
import Derived.Deep.RegionHeld3
namespace Go.Proofs.Ybulkcmdi
open Go.RowKit
set_option linter.unusedVariables false
set_option linter.unusedSimpArgs false

theorem own_row {w : World} {base N : Nat} {cs : List Value} {zs : List Int} (hcs : cs = zs.map (Value.int .u8)) (h : w.heap[N]? = some (.cells cs.toArray 5 (0, 0))) (hb : base ≤ N) (hl : zs.length ≤ 100000) : Own w base (.slice (some ⟨N, 0, none⟩) zs.length zs.length) zs := by
  subst hcs
  exact ⟨by simp, .inr ⟨N, zs.length, _, rfl, hb, h, Nat.le_refl _, by unfold maxLen; omega, by simp, by simp; exact List.take_of_length_le (by simp)⟩⟩

set_option maxHeartbeats 800000 in
theorem clone_u (a0 : Option Addr) (c0 : Nat) (zs : List Int) (base : Nat) (w : World) (hl : zs.length ≤ 100000) (rd : Rd w a0 zs) (n0 : a0 = none → c0 = 0) (hbase : base ≤ w.heap.size) :
    Calls Yba.prog 9 #[.slice a0 zs.length c0] w fun e w' => ∃ v, e = .returned v ∧ Own w' base v zs ∧ Below w.heap.size w w' := by
  cases a0 with
  | none =>
    obtain rfl : zs = [] := by
      cases zs with
      | nil => rfl
      | cons y ys => obtain ⟨x, hx, _⟩ := rd 0 (by simp); cases hx
    obtain rfl := n0 rfl
    have hq := fun w => Lib.run_eql_slice_nil (P := Yba.prog) w 22 5 none 0 0 0 0 Yba.underlying22
    go_enter Yba.func9, Yba.ntmps9
    go_wp2
    go_ret
    exact ⟨_, rfl, World.ownsRow_nil _ _ _ _, Below.refl _ _⟩
  | some x =>
    have hmk := makeN zs.length hl
    have hq := fun w => Lib.run_eql_slice_nil (P := Yba.prog) w 22 5 (some x) zs.length c0 0 0 Yba.underlying22
    obtain ⟨cs, hcs⟩ : ∃ cs, cs = zs.map (Value.int .u8) := ⟨_, rfl⟩
    have hcl : cs.length = zs.length := by rw [hcs]; simp
    have hone : ∀ v ∈ cs, v.oneCell' = true := by
      intro v hv
      rw [hcs] at hv
      obtain ⟨a, _, rfl⟩ := List.mem_map.1 hv
      rfl
    have HC : Hid (cs = zs.map (Value.int .u8)) := hcs
    have HCL : Hid (cs.length = zs.length) := hcl
    have HRD : Hid (Rd w (some x) zs) := rd
    clear hcs hcl rd
    go_enter Yba.func9, Yba.ntmps9
    go_wp2_with (first | (refine wpList_copy_splice rfl _ _ 22 22 rfl 5 Yba.underlying22 Yba.size5 (some ⟨w.heap.size, 0, none⟩) (some x) zs.length zs.length zs.length c0 rfl rfl w.heap.size 0 (List.replicate zs.length (.int .u8 0)) 5 ?hg cs ?hn ?hpos ?hfit hone w.heap.size w ?hb (Nat.le_refl _) ?rest))
    case hg => first | exact Array.getElem_push_eq | (simp; exact Array.getElem_push_eq)
    case hn => first | exact HCL.out.trans (Nat.min_self _).symm | exact HCL.out
    case hpos =>
      intro h j v hv
      have hj : j < zs.length := by have := (List.getElem?_eq_some_iff.1 hv).1; have := HCL.out; omega
      obtain ⟨x', hx', hc⟩ := HRD.out j hj
      obtain rfl := Option.some.inj hx'
      refine (((Below.refl w.heap.size w).alloc (Nat.le_refl _) _).cell (World.block_lt_of_cell? _ _ hc)).trans (hc.trans ?_)
      rw [HC.out] at hv
      simp [hj] at hv ⊢
      exact hv
    case hfit => have := HCL.out; simp; omega
    case hb => exact (Below.refl _ _).alloc (Nat.le_refl _) _
    case rest =>
      intro w2 hg2 hb2
      have ho : Own w2 base (.slice (some ⟨w.heap.size, 0, none⟩) zs.length zs.length) zs := by
        refine own_row HC.out ?_ hbase hl
        rw [hg2.out]
        congr 2
        have := HCL.out
        simp [splice]; omega
      have HO := (show Hid _ from ho)
      clear ho hg2
      go_wp2
      go_ret
      exact ⟨_, rfl, HO.out, hb2⟩

theorem newenc_u (v : Value) (ao : Option Addr) (n c : Nat) (w : World) :
    Calls Yba.prog 18 #[.slice ao n c] w fun e w' => e = .returned (.pointer (some ⟨w.heap.size, 0, none⟩)) ∧ w' = w.alloc (.cells #[.int .u32 0, .int .u32 4294967295, .slice ao n c] 38) := by
  go_enter Yba.func18, Yba.ntmps18
  go_wp2
  go_ret
  exact ⟨rfl, rfl⟩

/-- A Compressor at block C over the model m, with the bytes zs behind its encoder's output. -/
structure Cmp (C base : Nat) (m : Value) (s : Nat) (cnt low : Int) (zs : List Int) (v : Value) (w : World) : Prop where
  typ : TypAt w C 42
  hbC : base ≤ C
  c0 : w.cell? ⟨C, 0, none⟩ = some (.int .u32 low)
  c1 : w.cell? ⟨C, 1, none⟩ = some (.int .u32 4294967295)
  c2 : w.cell? ⟨C, 2, none⟩ = some v
  c3 : w.cell? ⟨C, 3, none⟩ = some m
  c4 : w.cell? ⟨C, 4, none⟩ = some (.int .i64 (s : Int))
  c5 : w.cell? ⟨C, 5, none⟩ = some (.int .u64 cnt)
  own : Own w base v zs

theorem cmp_new (W : World) (base : Nat) (m v : Value) (s : Nat) (zs : List Int) (hb : base ≤ W.heap.size) (ho : Own W base v zs) :
    Cmp W.heap.size base m s 0 0 zs v (W.alloc (.cells #[.int .u32 0, .int .u32 4294967295, v, m, .int .i64 (s : Int), .int .u64 0] 42)) :=
  ⟨TypAt.new _ _ _, hb, World.cell?_alloc_new _ _ _ _, World.cell?_alloc_new _ _ _ _, World.cell?_alloc_new _ _ _ _, World.cell?_alloc_new _ _ _ _, World.cell?_alloc_new _ _ _ _, World.cell?_alloc_new _ _ _ _, ho.alloc _⟩

set_option maxHeartbeats 800000 in
set_option maxRecDepth 20000 in
theorem newc_u (v : Value) (ds pad : List Int) (base : Nat) (m : Value) (tm : TypeId) (pm : Value) (hm : m = .iface tm pm) (w : World) (hown : Own w base v ds) (hl : ds.length ≤ 10000) (hbase : base ≤ w.heap.size) (hpad : pad = List.replicate 10 0) :
    Calls Yba.prog 10 #[v, m] w fun e w' => ∃ C v', e = .returned (.pointer (some ⟨C, 0, none⟩)) ∧ Cmp C base m ds.length 0 0 (ds ++ pad) v' w' ∧ Fr (fun k => v.ownBlock = some k) w w' := by
  subst hm
  obtain ⟨ao, n, c, rfl⟩ := hown.slice
  have hn := hown.rd.1
  subst hn
  have HP : Hid (pad = List.replicate 10 0) := hpad
  clear hpad
  go_enter Yba.func10, Yba.ntmps10
  go_wp2_with (first | (at_builtin; refine wpList_append_zeros rfl _ _ rfl base _ ds rfl hown 10 rfl (by omega) (by omega) hbase w (Below.refl _ _) ?_))
  intro v1 w1 o1' b1 g1
  have o1 : Own w1 base v1 (ds ++ pad) := by rw [HP.out]; exact o1'
  clear o1'
  obtain ⟨ao1, n1, c1, rfl⟩ := o1.slice
  have key := newenc_u .nilIface ao1 n1 c1 w1
  go_wp2_with fail
  refine key.mono ?_
  rintro e w2 ⟨rfl, rfl⟩
  have hb1 := b1.size
  have hcmp := cmp_new (w1.alloc (.cells #[.int .u32 0, .int .u32 4294967295, .slice ao1 n1 c1] 38)) base (.iface tm pm) (.slice ao1 n1 c1) ds.length (ds ++ pad) (by simp; omega) (o1.alloc _)
  rw [World.size_alloc] at hcmp
  have HCM := (show Hid _ from hcmp)
  have HF : Hid (Fr (fun k => (Value.slice ao ds.length c).ownBlock = some k) w ((w1.alloc (.cells #[.int .u32 0, .int .u32 4294967295, .slice ao1 n1 c1] 38)).alloc (.cells #[.int .u32 0, .int .u32 4294967295, .slice ao1 n1 c1, .iface tm pm, .int .i64 ds.length, .int .u64 0] 42))) :=
    ((Fr.grown g1).trans (Fr.alloc _ _ _)).trans (Fr.alloc _ _ _)
  clear hcmp o1 g1 hown b1
  go_wp2
  go_ret
  exact ⟨w1.heap.size + 1, _, rfl, HCM.out, HF.out⟩

/-- The stand-in model at block M. -/
structure Mod (M : Nat) (top : Int) (k : Nat) (w : World) : Prop where
  typ : TypAt w M 29
  c0 : w.cell? ⟨M, 0, none⟩ = some (.int .u8 top)
  c1 : w.cell? ⟨M, 1, none⟩ = some (.int .i64 (k : Int))

/-- What a step may turn: the compressor, the model, rows of bytes of the call's own. -/
def May (C M base : Nat) (w : World) (k : Nat) : Prop := k = C ∨ k = M ∨ (base ≤ k ∧ TypAt w k 5)

theorem typ_ne {w : World} {A B : Nat} {S T : TypeId} (h : TypAt w A S) (k : TypAt w B T) (hne : S ≠ T) : A ≠ B := by
  rintro rfl
  obtain ⟨x, hx⟩ := h
  obtain ⟨y, hy⟩ := k
  rw [hx] at hy
  simp at hy
  exact hne hy.2
theorem Own.typ {w : World} {base : Nat} {v : Value} {zs : List Int} (h : Own w base v zs) (k : Nat) (hk : v.ownBlock = some k) : base ≤ k ∧ TypAt w k 5 := by
  obtain ⟨_, ⟨rfl, _⟩ | ⟨g', cap', cur', rfl, hb', hh', _⟩⟩ := h
  · cases hk
  · simp [Value.ownBlock] at hk; subst hk; exact ⟨hb', _, hh'⟩

theorem code_close (C M base : Nat) (m : Value) (s k : Nat) (cnt low top : Int) (zs ys : List Int) (v v1 : Value) (w w1 : World) (hc : Cmp C base m s cnt low zs v w) (hm : Mod M top k w) (o1 : Own w1 base v1 (zs ++ ys)) (g1 : w.grownBy w1 v.ownBlock) :
    ∀ w', w' = ((w1.setCell ⟨C, 2, none⟩ v1).setCell ⟨C, 0, none⟩ (.int .u32 (top * 16777216))).setCell ⟨M, 1, none⟩ (.int .i64 ((k : Int) + 1)) →
    Cmp C base m s cnt (top * 16777216) (zs ++ ys) v1 w' ∧ Mod M top (k + 1) w' ∧ Fr (May C M base w) w w' := by
  rintro w' rfl
  have hCM : C ≠ M := typ_ne hc.typ hm.typ (by decide)
  have hvC := hc.own.ne hc.typ (by decide)
  have hvM := hc.own.ne hm.typ (by decide)
  have f1 := Fr.grown g1
  have tC : TypAt w1 C 42 := hc.typ.fr f1 hvC
  have tM : TypAt w1 M 29 := hm.typ.fr f1 hvM
  have eC : ∀ o, w1.cell? ⟨C, o, none⟩ = w.cell? ⟨C, o, none⟩ := fun o => f1.cell (p := ⟨C, o, none⟩) hc.typ.lt hvC
  have eM : ∀ o, w1.cell? ⟨M, o, none⟩ = w.cell? ⟨M, o, none⟩ := fun o => f1.cell (p := ⟨M, o, none⟩) hm.typ.lt hvM
  have n1 := o1.ne tC (by decide)
  have n2 := o1.ne tM (by decide)
  have sz := g1.size
  refine ⟨⟨((tC.setCell _ _).setCell _ _).setCell _ _, hc.hbC, ?_, ?_, ?_, ?_, ?_, ?_, ((o1.setCell n1 _).setCell n1 _).setCell n2 _⟩, ⟨((tM.setCell _ _).setCell _ _).setCell _ _, ?_, ?_⟩, ?_⟩
  · rw [World.cell?_setCell_other _ _ _ _ (by simp <;> omega)]; exact World.cell?_setCell_same _ _ _ (by rw [World.cell?_setCell_other _ _ _ _ (by simp), eC]; exact hc.c0)
  · rw [World.cell?_setCell_other _ _ _ _ (by simp), World.cell?_setCell_other _ _ _ _ (by simp), World.cell?_setCell_other _ _ _ _ (by simp), eC]; exact hc.c1
  · rw [World.cell?_setCell_other _ _ _ _ (by simp <;> omega), World.cell?_setCell_other _ _ _ _ (by simp)]; exact World.cell?_setCell_same _ _ _ ((eC 2).trans hc.c2)
  · rw [World.cell?_setCell_other _ _ _ _ (by simp), World.cell?_setCell_other _ _ _ _ (by simp), World.cell?_setCell_other _ _ _ _ (by simp), eC]; exact hc.c3
  · rw [World.cell?_setCell_other _ _ _ _ (by simp), World.cell?_setCell_other _ _ _ _ (by simp), World.cell?_setCell_other _ _ _ _ (by simp), eC]; exact hc.c4
  · rw [World.cell?_setCell_other _ _ _ _ (by simp), World.cell?_setCell_other _ _ _ _ (by simp), World.cell?_setCell_other _ _ _ _ (by simp), eC]; exact hc.c5
  · rw [World.cell?_setCell_other _ _ _ _ (by simp), World.cell?_setCell_other _ _ _ _ (by simp <;> omega), World.cell?_setCell_other _ _ _ _ (by simp <;> omega), eM]; exact hm.c0
  · rw [World.cell?_setCell_same _ _ _ (by rw [World.cell?_setCell_other _ _ _ _ (by simp), World.cell?_setCell_other _ _ _ _ (by simp), eM]; exact hm.c1)]; simp
  · refine (f1.mono (fun k _ h => .inr (.inr (hc.own.typ k h)))).trans (((Fr.setCell _ (.inl rfl) _).trans (Fr.setCell _ (.inl rfl) _)).trans (Fr.setCell _ (.inr (.inl rfl)) _))

set_option maxHeartbeats 800000 in
set_option maxRecDepth 20000 in
theorem code_u (C M base : Nat) (m : Value) (s k : Nat) (cnt low top : Int) (zs ys : List Int) (v : Value) (ao : Option Addr) (cp : Nat) (w : World) (h0 : 0 ≤ top) (h1 : top ≤ 255) (hk : (k : Int) ≤ 100000) (hc : Cmp C base m s cnt low zs v w) (hm : Mod M top k w)
    (rd : Rd w ao ys) (hn : ao = none → cp = 0) (hl : zs.length + ys.length ≤ 100000) (hbase : base ≤ w.heap.size) :
    Calls Yba.prog 58 #[.pointer (some ⟨M, 0, none⟩), .pointer (some ⟨C, 0, none⟩), .slice ao ys.length cp] w fun e w' => e = .returned (.tuple #[]) ∧ ∃ v', Cmp C base m s cnt (top * 16777216) (zs ++ ys) v' w' ∧ Mod M top (k + 1) w' ∧ Fr (May C M base w) w w' := by
  have c2 := hc.c2
  have z2 := hc.typ.frozen 2
  have hvC := hc.own.ne hc.typ (by decide)
  have hvM := hc.own.ne hm.typ (by decide)
  have hCM : C ≠ M := typ_ne hc.typ hm.typ (by decide)
  go_enter Yba.func58, Yba.ntmps58
  go_wp2_with (first | (at_builtin; refine wpList_append_bytes rfl _ _ rfl base v zs rfl hc.own ao ys.length cp ys rfl rfl rd hn (by omega) hbase w (Below.refl _ _) ?_))
  intro v1 w1 o1 b1 g1
  have f1 := Fr.grown g1
  have tC : TypAt w1 C 42 := hc.typ.fr f1 hvC
  have tM : TypAt w1 M 29 := hm.typ.fr f1 hvM
  have y0 := tC.frozen 0
  have y2 := tC.frozen 2
  have x1 := tM.frozen 1
  have d0 := (f1.cell (p := ⟨C, 0, none⟩) hc.typ.lt hvC).trans hc.c0
  have d2 := (f1.cell (p := ⟨C, 2, none⟩) hc.typ.lt hvC).trans hc.c2
  have e0 := (f1.cell (p := ⟨M, 0, none⟩) hm.typ.lt hvM).trans hm.c0
  have e1 := (f1.cell (p := ⟨M, 1, none⟩) hm.typ.lt hvM).trans hm.c1
  have HR := (show Hid _ from code_close C M base m s k cnt low top zs ys v v1 w w1 hc hm o1 g1)
  obtain ⟨ao1, n1, cp1, rfl⟩ := o1.slice
  clear f1 tC tM hc hm o1 g1 b1 rd c2
  go_wp2
  go_end0
  exact ⟨rfl, _, HR.out _ rfl⟩

theorem meth (M : Nat) (w : World) : Sem.run Yba.prog (method 203 27 (.pointer (some ⟨M, 0, none⟩)) "example.com/bitloom/bitloom/arith.code") w = .ok (58, .pointer (some ⟨M, 0, none⟩)) w := by kernel_rfl
theorem Cmp.drew {C base : Nat} {m : Value} {s : Nat} {cnt low : Int} {zs : List Int} {v : Value} {w : World} (h : Cmp C base m s cnt low zs v w) : Cmp C base m s cnt low zs v w.drew := ⟨h.typ, h.hbC, h.c0, h.c1, h.c2, h.c3, h.c4, h.c5, h.own⟩
theorem Mod.drew {M : Nat} {top : Int} {k : Nat} {w : World} (h : Mod M top k w) : Mod M top k w.drew := ⟨h.typ, h.c0, h.c1⟩
theorem Cmp.count {C base : Nat} {m : Value} {s : Nat} {cnt low : Int} {zs : List Int} {v : Value} {w : World} (h : Cmp C base m s cnt low zs v w) (c : Int) : Cmp C base m s c low zs v (w.setCell ⟨C, 5, none⟩ (.int .u64 c)) :=
  ⟨h.typ.setCell _ _, h.hbC, (World.cell?_setCell_other _ _ _ _ (by simp)).trans h.c0, (World.cell?_setCell_other _ _ _ _ (by simp)).trans h.c1, (World.cell?_setCell_other _ _ _ _ (by simp)).trans h.c2, (World.cell?_setCell_other _ _ _ _ (by simp)).trans h.c3, (World.cell?_setCell_other _ _ _ _ (by simp)).trans h.c4,
   World.cell?_setCell_same _ _ _ h.c5, h.own.setCell (h.own.ne h.typ (by decide)) _⟩
theorem Mod.far {M C : Nat} {top : Int} {k : Nat} {w : World} (h : Mod M top k w) (hne : C ≠ M) (o : Nat) (u : Value) : Mod M top k (w.setCell ⟨C, o, none⟩ u) :=
  ⟨h.typ.setCell _ _, (World.cell?_setCell_other _ _ _ _ (by simp <;> omega)).trans h.c0, (World.cell?_setCell_other _ _ _ _ (by simp <;> omega)).trans h.c1⟩

set_option maxHeartbeats 800000 in
set_option maxRecDepth 20000 in
theorem Code_u (C M base : Nat) (s k : Nat) (cnt low top : Int) (zs ys : List Int) (v : Value) (ao : Option Addr) (cp : Nat) (w : World) (h0 : 0 ≤ top) (h1 : top ≤ 255) (hk : (k : Int) ≤ 100000) (hcn0 : 0 ≤ cnt) (hcn1 : cnt ≤ 100000)
    (hc : Cmp C base (.iface 27 (.pointer (some ⟨M, 0, none⟩))) s cnt low zs v w) (hm : Mod M top k w)
    (rd : Rd w ao ys) (hn : ao = none → cp = 0) (hl : zs.length + ys.length ≤ 100000) (hbase : base ≤ w.heap.size) :
    Calls Yba.prog 11 #[.pointer (some ⟨C, 0, none⟩), .slice ao ys.length cp] w fun e w' => e = .returned (.tuple #[]) ∧ ∃ v', Cmp C base (.iface 27 (.pointer (some ⟨M, 0, none⟩))) s (cnt + ys.length) (top * 16777216) (zs ++ ys) v' w' ∧ Mod M top (k + 1) w' ∧ Fr (May C M base w) w w' := by
  have c3 := hc.c3
  have hCM : C ≠ M := typ_ne hc.typ hm.typ (by decide)
  have HC : Hid (Cmp C base (.iface 27 (.pointer (some ⟨M, 0, none⟩))) s cnt low zs v w) := hc
  have HM : Hid (Mod M top k w) := hm
  have HRD : Hid (Rd w ao ys) := rd
  have hmeth := meth M
  clear hc hm rd
  go_enter Yba.func11, Yba.ntmps11
  go_wp2_with fail
  go_region_held3 (fun w' => w'.cell? ⟨C, 3, none⟩ = some (.iface 27 (.pointer (some ⟨M, 0, none⟩)))) (assumption)
    ((go_at_call 58; refine (code_u C M base _ s k cnt low top zs ys v ao cp w.drew h0 h1 hk HC.out.drew HM.out.drew HRD.out hn hl hbase).mono ?_; rintro e w1 ⟨rfl, v1, hc1, hm1, f1⟩; have c31 := hc1.c3))
  have c51 := hc1.c5
  have z51 := hc1.typ.frozen 5
  have HR : Hid (Cmp C base (.iface 27 (.pointer (some ⟨M, 0, none⟩))) s (cnt + ys.length) (top * 16777216) (zs ++ ys) v1 (w1.setCell ⟨C, 5, none⟩ (.int .u64 (cnt + ys.length))) ∧ Mod M top (k + 1) (w1.setCell ⟨C, 5, none⟩ (.int .u64 (cnt + ys.length))) ∧ Fr (May C M base w) w (w1.setCell ⟨C, 5, none⟩ (.int .u64 (cnt + ys.length)))) :=
    ⟨hc1.count _, hm1.far hCM _ _, ((Fr.drew _ _).trans f1).trans (Fr.setCell _ (.inl rfl) _)⟩
  clear hc1 hm1 f1
  go_wp2
  go_end0
  exact ⟨rfl, _, HR.out⟩
end Go.Proofs.Ybulkcmdi
