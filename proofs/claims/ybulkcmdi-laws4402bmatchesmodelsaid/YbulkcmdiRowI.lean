import Derived.Test.YbulkcmdiSrtP
namespace Go.Proofs.Ybulkcmdi
open Go.RowKit
set_option linter.unusedVariables false
set_option linter.unusedSimpArgs false

theorem size46 : (Yba.prog.info? 46).map (·.size) = some 256 := by kernel_rfl
theorem size54 : (Yba.prog.info? 54).map (·.size) = some 256 := by kernel_rfl
/-- A row of n values. -/
def arrV (n : Nat) (F : Nat → Value) : Array Value := (Array.range n).map F
theorem arrV_size (n : Nat) (F : Nat → Value) : (arrV n F).size = n := by simp [arrV]
theorem arrV_get (n : Nat) (F : Nat → Value) (i : Nat) (hi : i < n) : (arrV n F)[i]? = some (F i) := by simp [arrV, hi]
def fI (f : Nat → Int) : Nat → Value := fun v => .int .i64 (f v)
def fB (f : Nat → Bool) : Nat → Value := fun v => .bool (f v)
theorem zero46 (w : World) : Sem.run Yba.prog (zeroValue 46) w = .ok (.agg (arrV 256 (fI (fun _ => 0)))) w := by kernel_rfl
theorem zero54 (w : World) : Sem.run Yba.prog (zeroValue 54) w = .ok (.agg (arrV 256 (fB (fun _ => false)))) w := by kernel_rfl
def updB (L : Nat → Bool) (i : Nat) (z : Bool) : Nat → Bool := fun k => if k = i then z else L k
def updV (F : Nat → Value) (i : Nat) (z : Value) : Nat → Value := fun k => if k = i then z else F k
theorem updV_I (f : Nat → Int) (i : Nat) (z : Int) : updV (fI f) i (.int .i64 z) = fI (upd f i z) := by
  funext k; unfold updV fI upd; split <;> rfl
theorem updV_B (f : Nat → Bool) (i : Nat) (z : Bool) : updV (fB f) i (.bool z) = fB (updB f i z) := by
  funext k; unfold updV fB updB; split <;> rfl
/-- Block B is a row of n values, of type T, that holds F. -/
def VRow (w : World) (B : Nat) (T : TypeId) (n : Nat) (F : Nat → Value) : Prop := w.heap[B]? = some (.cells (arrV n F) T (0, 0))
theorem VRow.cell {w : World} {B : Nat} {T : TypeId} {n : Nat} {F : Nat → Value} (h : VRow w B T n F) (i : Nat) (hi : i < n) : w.cell? ⟨B, i, none⟩ = some (F i) := by
  unfold VRow at h
  simp [World.cell?, h, arrV_get n F i hi]
theorem VRow.frozen {w : World} {B : Nat} {T : TypeId} {n : Nat} {F : Nat → Value} (h : VRow w B T n F) (i : Nat) : w.frozen? ⟨B, i, none⟩ = false := by
  unfold VRow at h
  simp [World.frozen?, h]
theorem VRow.lt {w : World} {B : Nat} {T : TypeId} {n : Nat} {F : Nat → Value} (h : VRow w B T n F) : B < w.heap.size := (Array.getElem?_eq_some_iff.1 h).1
theorem VRow.set {w : World} {B : Nat} {T : TypeId} {n : Nat} {F : Nat → Value} (h : VRow w B T n F) (i : Nat) (z : Value) : VRow (w.setCell ⟨B, i, none⟩ z) B T n (updV F i z) := by
  unfold VRow World.setCell at *
  simp only [Array.getElem?_modify, if_true, h, Option.map_some]
  congr 2
  apply Array.ext
  · simp [arrV]
  · intro k h1 h2
    have hk : k < n := by simpa [arrV] using h2
    by_cases e : k = i
    · subst e; simp [arrV, updV]
    · have h3 : k < (arrV n F).size := by simpa [arrV] using hk
      show ((arrV n F).setIfInBounds i z)[k]'(by simpa [arrV] using hk) = _
      rw [Array.getElem_setIfInBounds h3, if_neg (Ne.symm e)]
      simp [arrV, updV, e]
theorem VRow.setI {w : World} {B : Nat} {T : TypeId} {n : Nat} {f : Nat → Int} (h : VRow w B T n (fI f)) (i : Nat) (z : Int) : VRow (w.setCell ⟨B, i, none⟩ (.int .i64 z)) B T n (fI (upd f i z)) := by
  rw [← updV_I]; exact h.set i _
theorem VRow.setB {w : World} {B : Nat} {T : TypeId} {n : Nat} {f : Nat → Bool} (h : VRow w B T n (fB f)) (i : Nat) (z : Bool) : VRow (w.setCell ⟨B, i, none⟩ (.bool z)) B T n (fB (updB f i z)) := by
  rw [← updV_B]; exact h.set i _
theorem VRow.kept {w w' : World} {B : Nat} {T : TypeId} {n : Nat} {F : Nat → Value} {R : Nat → Prop} (h : VRow w B T n F) (hf : Fr R w w') (hR : ¬ R B) : VRow w' B T n F := (hf.block B h.lt hR).trans h
theorem VRow.below {w w' : World} {B C : Nat} {T : TypeId} {n : Nat} {F : Nat → Value} (h : VRow w B T n F) (hf : Below C w w') (hR : B < C) : VRow w' B T n F := (hf.block B hR).trans h
theorem RowAt.below {w w' : World} {B C : Nat} {T : TypeId} {n : Nat} {L : Nat → Int} (h : RowAt w B T n L) (hf : Below C w w') (hR : B < C) : RowAt w' B T n L := (hf.block B hR).trans h
theorem VRow.drewN {w : World} {B : Nat} {T : TypeId} {n : Nat} {F : Nat → Value} (h : VRow w B T n F) (q : Nat) : VRow (w.drewN q) B T n F := h.kept (Fr.drewN (fun _ => False) w q) (fun h => h)
theorem VRow.far {w : World} {B : Nat} {T : TypeId} {n : Nat} {F : Nat → Value} (h : VRow w B T n F) {a : Addr} (hne : B ≠ a.block) (u : Value) : VRow (w.setCell a u) B T n F := (Below.heap_setCell _ _ _ _ hne).trans h
theorem VRow.new (w : World) (T : TypeId) (n : Nat) (F : Nat → Value) : VRow (w.alloc (.cells (arrV n F) T)) w.heap.size T n F := heap_alloc_last w _
theorem VRow.alloc {w : World} {B : Nat} {T : TypeId} {n : Nat} {F : Nat → Value} (h : VRow w B T n F) (o : Obj) : VRow (w.alloc o) B T n F := h.kept (Fr.alloc (fun _ => False) w o) (fun h => h)
theorem RowAt.alloc {w : World} {B : Nat} {T : TypeId} {n : Nat} {F : Nat → Int} (h : RowAt w B T n F) (o : Obj) : RowAt (w.alloc o) B T n F := h.kept (Fr.alloc (fun _ => False) w o) (fun h => h)
end Go.Proofs.Ybulkcmdi
