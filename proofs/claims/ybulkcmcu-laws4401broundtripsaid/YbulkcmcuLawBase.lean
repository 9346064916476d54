import Derived.Test.YbulkcmcuWalkI
import Derived.Deep.OwnRows
namespace Go.Proofs.Ybulkcmcu
open Go.RowKit
set_option linter.unusedVariables false
set_option linter.unusedSimpArgs false

def IsRow (k : IntKind) (w : World) (a : Option Addr) (len cap : Nat) (zs : List Int) : Prop :=
  (a = none ∧ len = 0 ∧ cap = 0 ∧ zs = []) ∨
  ∃ x, a = some x ∧ len ≤ cap ∧ cap ≤ maxLen ∧ zs.length = cap ∧ (∀ i, i < zs.length → w.cell? (x.add i) = some (.int k (zs.getD i 0))) ∧ ∀ n ∈ zs, (Lit.int k n).wf = true

theorem Yba.info5 : (Yba.prog.info? 5).map (fun i => (i.zero, i.size, i.bytes)) = some (some (.int .u8 0), 1, 1) := by kernel_rfl
theorem Yba.size5 : (Yba.prog.info? 5).map (·.size) = some 1 := by kernel_rfl

theorem madeCells_one (z : Value) (n : Nat) : madeCells #[z] n = Array.replicate n z := by
  apply Array.ext
  · simp [madeCells]
  · intro i h1 h2; simp [madeCells, Nat.mod_one]

theorem buf_cell (zs : List Int) (cs : List Value) (hcs : cs = zs.map (Value.int .u8)) (W : World) (N : Nat) (hg : W.heap[N]? = some (.cells (splice (List.replicate zs.length (.int .u8 0)) 0 cs).toArray 5 (0, 0))) (j : Nat) (hj : j < zs.length) :
    W.cell? ⟨N, j, none⟩ = some (.int .u8 (zs.getD j 0)) := by
  have e : splice (List.replicate zs.length (Value.int .u8 0)) 0 cs = cs := by
    subst hcs; simp [splice]
  rw [e] at hg
  have hc : cs[j]? = some (.int .u8 (zs.getD j 0)) := by
    subst hcs; rw [List.getElem?_map, List.getD_eq_getElem?_getD, List.getElem?_eq_getElem hj]; rfl
  have := World.news_of_block hg j _ hc
  rw [addr_add, Nat.zero_add] at this
  exact this

theorem make_row (w : World) (n : Nat) : (w.alloc (.cells (madeCells #[Value.int .u8 0] n) 5)).heap[w.heap.size]'(by simp) = .cells (Array.replicate n (.int .u8 0)) 5 := by
  rw [madeCells_one]
  exact Array.getElem_push_eq

theorem copy_from (zs : List Int) (cs : List Value) (hcs : cs = zs.map (Value.int .u8)) (hcl : cs.length = zs.length) (a0 : Option Addr) (w : World)
    (hrow : ∀ j, j < zs.length → ∃ x, a0 = some x ∧ w.cell? (x.add j) = some (.int .u8 (zs.getD j 0))) (o : Obj) (h : 0 < cs.length) :
    ∃ ad, a0 = some ad ∧ ∀ j v, cs[j]? = some v → (w.alloc o).cell? (ad.add j) = some v := by
  obtain ⟨x, hx, _⟩ := hrow 0 (by omega)
  refine ⟨x, hx, fun j v hv => ?_⟩
  have hj : j < zs.length := by
    have := (List.getElem?_eq_some_iff.1 hv).1; omega
  obtain ⟨y, hy, hc⟩ := hrow j hj
  have hyx : y = x := by rw [hx] at hy; exact (Option.some.inj hy).symm
  subst hyx
  have hlt : (y.add j).block < w.heap.size := World.block_lt_of_cell? _ _ hc
  rw [((Below.refl w.heap.size w).alloc (Nat.le_refl _) _).cell hlt, hc, ← hv, hcs, List.getElem?_map, List.getD_eq_getElem?_getD, List.getElem?_eq_getElem hj]
  rfl

theorem itr_new (w2 : World) (G : Nat) (zs : List Int) (o l t : Nat) (f st : Bool) (b : Int) (hl : zs.length ≤ 1024) (hby : ∀ j, 0 ≤ zs.getD j 0 ∧ zs.getD j 0 < 256) (hr2 : ∀ j, j < zs.length → w2.cell? ⟨G, j, none⟩ = some (.int .u8 (zs.getD j 0))) (hG : G < w2.heap.size) (hol : o ≤ zs.length * 8) :
    Itr w2.heap.size G zs zs.length o f b st l t (w2.alloc (.cells #[.slice (some ⟨G, 0, none⟩) zs.length zs.length, .int .i64 o, .bool f, .int .u64 3, .int .i64 0, .int .i64 0, .int .i64 0, .int .i64 0, .int .i64 0, .int .i64 0, .int .i64 0, .int .i64 0, .int .i64 0, .int .i64 0, .int .i64 0, .int .i64 0,
      .int .i64 0, .int .i64 0, .int .i64 0, .int .i64 0, .int .i64 0, .int .u64 0, .int .u64 0, .int .i64 0, .int .u64 b, .int .i64 5, .int .i64 0, .int .i64 0, .int .u64 0, .int .u64 0, .int .i64 0, .bool st, .int .i64 l, .int .i64 t, .nilIface] 40)) := by
  have hK : Below w2.heap.size w2 (w2.alloc (.cells #[.slice (some ⟨G, 0, none⟩) zs.length zs.length, .int .i64 o, .bool f, .int .u64 3, .int .i64 0, .int .i64 0, .int .i64 0, .int .i64 0, .int .i64 0, .int .i64 0, .int .i64 0, .int .i64 0, .int .i64 0, .int .i64 0, .int .i64 0, .int .i64 0,
      .int .i64 0, .int .i64 0, .int .i64 0, .int .i64 0, .int .i64 0, .int .u64 0, .int .u64 0, .int .i64 0, .int .u64 b, .int .i64 5, .int .i64 0, .int .i64 0, .int .u64 0, .int .u64 0, .int .i64 0, .bool st, .int .i64 l, .int .i64 t, .nilIface] 40)) := (Below.refl _ _).alloc (Nat.le_refl _) _
  refine ⟨⟨hl, Nat.le_refl _, hby, fun j hj => (hK.cell (p := ⟨G, j, none⟩) hG).trans (hr2 j hj), by simp; omega, by simp, by omega, ?_, ?_, ?_, ?_, ?_, hol⟩, ?_, ?_, ?_, ?_, ?_, ?_, ?_, ?_⟩
  all_goals first | exact World.cell?_alloc_new _ _ _ _ | exact World.frozen?_alloc_new _ _ _ _

theorem mdl_new (w3 : World) (G : Nat) (zs : List Int) (o : Nat) (f : Bool) (hl : zs.length ≤ 1024) (hby : ∀ j, 0 ≤ zs.getD j 0 ∧ zs.getD j 0 < 256) (hr3 : ∀ j, j < zs.length → w3.cell? ⟨G, j, none⟩ = some (.int .u8 (zs.getD j 0))) (hG : G < w3.heap.size) (hol : o ≤ zs.length * 8) :
    Mdl w3.heap.size (w3.heap.size + 1) G zs o f ((w3.alloc (.cells #[.int .i64 o] 3)).alloc (.cells #[.bool f] 4)) := by
  have hK : Below w3.heap.size w3 ((w3.alloc (.cells #[.int .i64 o] 3)).alloc (.cells #[.bool f] 4)) := ((Below.refl _ _).alloc (Nat.le_refl _) _).alloc (by simp) _
  refine ⟨hl, hby, fun j hj => (hK.cell (p := ⟨G, j, none⟩) hG).trans (hr3 j hj), by simp; omega, by simp; omega, by simp, by omega, by omega, by omega, ?_, ?_, ?_, ?_, hol⟩
  all_goals simp

/-- WHAT THE CLOSING CHECKS READ: B: the iterator's block; P, F: the model's two variables; w5: the world in which they are read; hfar: nothing of w3 has turned. -/
theorem tail_facts {w2 w3 w5 : World} {G : Nat} {zs : List Int} {o l t off' l' t' : Nat} {f st f' st' : Bool} {b b' : Int}
    (hK3 : Kept w2.heap.size rawS (w2.alloc (.cells #[.slice (some ⟨G, 0, none⟩) zs.length zs.length, .int .i64 o, .bool f, .int .u64 3, .int .i64 0, .int .i64 0, .int .i64 0, .int .i64 0, .int .i64 0, .int .i64 0, .int .i64 0, .int .i64 0, .int .i64 0, .int .i64 0, .int .i64 0, .int .i64 0,
      .int .i64 0, .int .i64 0, .int .i64 0, .int .i64 0, .int .i64 0, .int .u64 0, .int .u64 0, .int .i64 0, .int .u64 b, .int .i64 5, .int .i64 0, .int .i64 0, .int .u64 0, .int .u64 0, .int .i64 0, .bool st, .int .i64 l, .int .i64 t, .nilIface] 40)) w3)
    (hI3 : Itr w2.heap.size G zs zs.length off' f' b' st' l' t' w3) (hfar : ∀ p : Addr, p.block < w3.heap.size → w5.cell? p = w3.cell? p) :
    (w5.cell? ⟨w2.heap.size, 0, none⟩ = some (.slice (some ⟨G, 0, none⟩) zs.length zs.length) ∧ w5.cell? ⟨w2.heap.size, 1, none⟩ = some (.int .i64 off') ∧ w5.cell? ⟨w2.heap.size, 2, none⟩ = some (.bool f') ∧ w5.cell? ⟨w2.heap.size, 24, none⟩ = some (.int .u64 b')) ∧
    (w5.cell? ⟨w2.heap.size, 31, none⟩ = some (.bool st') ∧ w5.cell? ⟨w2.heap.size, 32, none⟩ = some (.int .i64 l') ∧ w5.cell? ⟨w2.heap.size, 33, none⟩ = some (.int .i64 t')) ∧
    (w5.cell? ⟨w2.heap.size, 25, none⟩ = some (.int .i64 5) ∧ w5.cell? ⟨w2.heap.size, 3, none⟩ = some (.int .u64 3) ∧ w5.cell? ⟨w2.heap.size, 4, none⟩ = some (.int .i64 0) ∧ w5.cell? ⟨w2.heap.size, 34, none⟩ = some .nilIface) ∧
    ∀ j, j < zs.length → w5.cell? ⟨G, j, none⟩ = some (.int .u8 (zs.getD j 0)) := by
  have hB := hI3.rdr.hB
  have hB0 : w2.heap.size < (w2.alloc (.cells #[.slice (some ⟨G, 0, none⟩) zs.length zs.length, .int .i64 o, .bool f, .int .u64 3, .int .i64 0, .int .i64 0, .int .i64 0, .int .i64 0, .int .i64 0, .int .i64 0, .int .i64 0, .int .i64 0, .int .i64 0, .int .i64 0, .int .i64 0, .int .i64 0,
      .int .i64 0, .int .i64 0, .int .i64 0, .int .i64 0, .int .i64 0, .int .u64 0, .int .u64 0, .int .i64 0, .int .u64 b, .int .i64 5, .int .i64 0, .int .i64 0, .int .u64 0, .int .u64 0, .int .i64 0, .bool st, .int .i64 l, .int .i64 t, .nilIface] 40)).heap.size := by simp
  refine ⟨⟨(hfar _ hB).trans hI3.rdr.c0, (hfar _ hB).trans hI3.rdr.c1, (hfar _ hB).trans hI3.rdr.c2, (hfar _ hB).trans hI3.c24⟩, ⟨(hfar _ hB).trans hI3.c31, (hfar _ hB).trans hI3.c32, (hfar _ hB).trans hI3.c33⟩,
    ⟨(hfar _ hB).trans ((hK3.cell 25 (by simp [rawS]) hB0).trans (World.cell?_alloc_new _ _ _ _)), (hfar _ hB).trans ((hK3.cell 3 (by simp [rawS]) hB0).trans (World.cell?_alloc_new _ _ _ _)),
     (hfar _ hB).trans ((hK3.cell 4 (by simp [rawS]) hB0).trans (World.cell?_alloc_new _ _ _ _)), (hfar _ hB).trans ((hK3.cell 34 (by simp [rawS]) hB0).trans (World.cell?_alloc_new _ _ _ _))⟩,
    fun j hj => (hfar _ hI3.rdr.hG).trans (hI3.rdr.row j hj)⟩

end Go.Proofs.Ybulkcmcu
