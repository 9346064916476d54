import Derived.Test.YbulkcmdiProg
import Derived.WalkKit
import Derived.WalkSpells
import Derived.WalkLawsBesides
import Derived.StillTactics
import Derived.LoopTactic
import Derived.Laws.BitsLemmas
import Derived.Laws.AppendOwn
import Derived.Laws.AppendOwnNone
import Derived.Laws.CopyOwn
import Derived.OwnWalk
import Derived.OneCell
import Derived.Deep.QuietTactic
import Derived.BigQuiet
import Derived.Below
namespace Go.Proofs.Ybulkcmdi
open Go.RowKit
set_option linter.unusedVariables false
set_option linter.unusedSimpArgs false

theorem Yba.info5 : (Yba.prog.info? 5).map (fun i => (i.zero, i.size, i.bytes)) = some (some (.int .u8 0), 1, 1) := by kernel_rfl
theorem Yba.size5 : (Yba.prog.info? 5).map (·.size) = some 1 := by kernel_rfl

theorem add_eq (g o j : Nat) : (⟨g, o, none⟩ : Addr).add j = ⟨g, o + j, none⟩ := by cases j <;> simp [Addr.add]
theorem add_block (x : Addr) (j : Nat) : (x.add j).block = x.block := by cases j <;> simp [Addr.add]

/-- v is a slice of bytes of the call's own (its block's number is base or more), with the elements zs. -/
def Own (w : World) (base : Nat) (v : Value) (zs : List Int) : Prop := w.ownsRow base 5 1 v zs.length (zs.map (Value.int .u8))

theorem Own.alloc {w : World} {base : Nat} {v : Value} {zs : List Int} (h : Own w base v zs) (o : Obj) : Own (w.alloc o) base v zs := World.ownsRow.alloc h o
theorem Own.drewN {w : World} {base : Nat} {v : Value} {zs : List Int} (h : Own w base v zs) (n : Nat) : Own (w.drewN n) base v zs := by
  unfold Own World.ownsRow at *; simpa using h
theorem Own.lt {w : World} {base : Nat} {v : Value} {zs : List Int} (h : Own w base v zs) : ∀ k, v.ownBlock = some k → base ≤ k ∧ k < w.heap.size := World.ownsRow.lt h
theorem Own.setCell {w : World} {base : Nat} {v : Value} {zs : List Int} (h : Own w base v zs) {a : Addr} (ha : v.ownBlock ≠ some a.block) (u : Value) : Own (w.setCell a u) base v zs := ownsRow_setCell_other h ha u
theorem Own.kept {w w' : World} {base : Nat} {v : Value} {zs : List Int} (h : Own w base v zs) (hb : ∀ k, v.ownBlock = some k → w'.heap[k]? = w.heap[k]?) : Own w' base v zs := by
  obtain ⟨h1, h2⟩ := h
  refine ⟨h1, ?_⟩
  rcases h2 with h2 | ⟨g, cap, cur, rfl, hg, hh, r⟩
  · exact .inl h2
  · exact .inr ⟨g, cap, cur, rfl, hg, (hb g rfl).trans hh, r⟩
theorem Own.shape {w : World} {base : Nat} {v : Value} {zs : List Int} (h : Own w base v zs) : (v = .slice none 0 0 ∧ zs = []) ∨ ∃ g cap, v = .slice (some ⟨g, 0, none⟩) zs.length cap ∧ base ≤ g ∧ g < w.heap.size ∧ ∀ j, j < zs.length → w.cell? ⟨g, j, none⟩ = some (.int .u8 (zs.getD j 0)) := by
  have hc := fun g hg => World.ownsRow.cells h (g := g) hg
  have hl := h.lt
  obtain ⟨h1, h2⟩ := h
  rcases h2 with ⟨rfl, h2⟩ | ⟨g, cap, cur, rfl, hg, hh, r⟩
  · exact .inl ⟨rfl, List.eq_nil_of_length_eq_zero h2⟩
  · refine .inr ⟨g, cap, rfl, hg, (hl g rfl).2, fun j hj => ?_⟩
    have := hc g rfl j (.int .u8 (zs.getD j 0)) (by simp [hj])
    rwa [add_eq, Nat.zero_add] at this

/-- What a slice of bytes holds, wherever it lies. -/
def Rd (w : World) (ao : Option Addr) (zs : List Int) : Prop := ∀ j, j < zs.length → ∃ x, ao = some x ∧ w.cell? (x.add j) = some (.int .u8 (zs.getD j 0))
theorem Rd.below {w w' : World} {B : Nat} {ao : Option Addr} {zs : List Int} (h : Rd w ao zs) (hb : Below B w w') (hlt : ∀ x, ao = some x → x.block < B) : Rd w' ao zs := fun j hj => by
  obtain ⟨x, hx, hc⟩ := h j hj
  exact ⟨x, hx, (hb.cell (p := x.add j) (by rw [add_block]; exact hlt x hx)).trans hc⟩
theorem Rd.of_cells {w w' : World} {ao : Option Addr} {zs : List Int} (h : Rd w ao zs) (hb : ∀ (x : Addr) (j : Nat) (v : Value), w.cell? (x.add j) = some v → w'.cell? (x.add j) = some v) : Rd w' ao zs := fun j hj => by
  obtain ⟨x, hx, hc⟩ := h j hj
  exact ⟨x, hx, hb x j _ hc⟩
/-- An argument: it lay there when w0 stood. -/
theorem Rd.old {w0 w : World} {ao : Option Addr} {zs : List Int} (h : Rd w0 ao zs) (hb : Below w0.heap.size w0 w) : Rd w ao zs := fun j hj => by
  obtain ⟨x, hx, hc⟩ := h j hj
  exact ⟨x, hx, (hb.cell (World.block_lt_of_cell? _ _ hc)).trans hc⟩
theorem Own.rd {w : World} {base : Nat} {ao : Option Addr} {n cap : Nat} {zs : List Int} (h : Own w base (.slice ao n cap) zs) : n = zs.length ∧ Rd w ao zs ∧ (ao = none → n = 0 ∧ cap = 0) := by
  rcases h.shape with ⟨hv, rfl⟩ | ⟨g, cap', hv, _, _, hc⟩
  · simp at hv; obtain ⟨rfl, rfl, rfl⟩ := hv
    exact ⟨rfl, fun j hj => by simp at hj, fun _ => ⟨rfl, rfl⟩⟩
  · simp at hv; obtain ⟨rfl, rfl, rfl⟩ := hv
    exact ⟨rfl, fun j hj => ⟨_, rfl, by rw [add_eq, Nat.zero_add]; exact hc j hj⟩, fun h => by cases h⟩

theorem wpList_append_bytes {w : World} {ops : Array Oper} {rest : List Oper} {o : Oper} {a : Act} {Q : Exit → Act → World → Prop} (hgd : o.guard = none) (s x : Operand)
    (ho : o.op = .call { callee := .builtin .append, args := #[s, x], argTypes := #[22, 22] })
    (base : Nat) (v : Value) (zs : List Int) (hs : a.eval s = v) (hown : Own w base v zs)
    (ao : Option Addr) (m c : Nat) (ys : List Int) (hx : a.eval x = .slice ao m c) (hm : ys.length = m) (hrd : Rd w ao ys) (hnone : ao = none → c = 0)
    (h63 : zs.length + m ≤ 1000000) (hbase : base ≤ w.heap.size) (w0 : World) (hb : Below base w0 w)
    (h : ∀ v' w', Own w' base v' (zs ++ ys) → Below base w0 w' → w.grownBy w' v.ownBlock → wpList Yba.prog ops Q rest (a.put o.dst v') w') : wpList Yba.prog ops Q (o :: rest) a w := by
  obtain ⟨i0, hi, hz0, hz1, hz2⟩ := info_parts Yba.info5
  cases ao with
  | none =>
    have hm0 : ys = [] := by
      cases ys with
      | nil => rfl
      | cons y ys => obtain ⟨x, hx, _⟩ := hrd 0 (by simp); cases hx
    subst hm0
    obtain rfl : m = 0 := by simpa using hm.symm
    obtain rfl := hnone rfl
    refine wpList_append_own_none hgd s x 22 ho base 5 i0 1 Yba.underlying22 hi v zs.length _ hs hown hx ?_
    exact h v w (by simpa using hown) hb (World.grownBy.refl _ _)
  | some ad =>
    refine wpList_append_own w hgd s x 22 ho base 5 i0 (.int .u8 0) 1 1 Yba.underlying22 hi hz0 hz1 hz2 rfl (by decide) v zs.length _ hs hown ad m c (ys.map (Value.int .u8)) hx (by simpa using hm) ?_ ?_ (by unfold maxLen; omega) (by omega) hbase ?_
    · intro j u hj
      have hj' : j < ys.length := by
        have := (List.getElem?_eq_some_iff.1 hj).1; simpa using this
      obtain ⟨x', hx', hc⟩ := hrd j hj'
      obtain rfl := Option.some.inj hx'
      rw [hc]
      simp [hj'] at hj ⊢
      exact hj
    · intro u hu
      obtain ⟨z, _, rfl⟩ := List.mem_map.1 hu
      rfl
    · intro v' w' hown' hgrow _
      refine h v' w' ?_ (hb.grown hgrow hbase (fun k hk => (hown.lt k hk).1)) hgrow
      unfold Own
      simpa [hm] using hown'
end Go.Proofs.Ybulkcmdi
