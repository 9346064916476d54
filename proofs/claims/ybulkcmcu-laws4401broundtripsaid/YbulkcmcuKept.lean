/-
  'Kept B S w w'': of what lay in w nothing has turned but the cells of block B whose places stand in S. For callees that write a few fields of one struct (a pointer receiver), draw, and make blocks of their own.
-/
import Derived.Below
import Derived.Laws.CopyOwn
namespace Go.Proofs.Ybulkcmcu
open Go.RowKit

structure Kept (B : Nat) (S : List Nat) (w w' : World) : Prop where
  os : w'.os = w.os
  tape : w'.tape = w.tape
  output : w'.output = w.output
  size : w.heap.size ≤ w'.heap.size
  block : ∀ k, k < w.heap.size → k ≠ B → w'.heap[k]? = w.heap[k]?
  cell : ∀ o, o ∉ S → B < w.heap.size → w'.cell? ⟨B, o, none⟩ = w.cell? ⟨B, o, none⟩
  frozen : ∀ p : Addr, p.block < w.heap.size → w'.frozen? p = w.frozen? p

theorem Kept.refl (B : Nat) (S : List Nat) (w : World) : Kept B S w w := ⟨rfl, rfl, rfl, Nat.le_refl _, fun _ _ _ => rfl, fun _ _ _ => rfl, fun _ _ => rfl⟩

theorem Kept.trans {B : Nat} {S : List Nat} {a b c : World} (h : Kept B S a b) (k : Kept B S b c) : Kept B S a c :=
  ⟨k.os.trans h.os, k.tape.trans h.tape, k.output.trans h.output, Nat.le_trans h.size k.size, fun i hi hB => (k.block i (Nat.lt_of_lt_of_le hi h.size) hB).trans (h.block i hi hB),
   fun o ho hB => (k.cell o ho (Nat.lt_of_lt_of_le hB h.size)).trans (h.cell o ho hB), fun p hp => (k.frozen p (Nat.lt_of_lt_of_le hp h.size)).trans (h.frozen p hp)⟩

theorem Kept.mono {B : Nat} {S S' : List Nat} {a b : World} (h : Kept B S a b) (hS : ∀ o, o ∈ S → o ∈ S') : Kept B S' a b :=
  ⟨h.os, h.tape, h.output, h.size, h.block, fun o ho hB => h.cell o (fun hm => ho (hS o hm)) hB, h.frozen⟩

theorem Kept.drew {B : Nat} {S : List Nat} {a w : World} (h : Kept B S a w) : Kept B S a w.drew := ⟨h.os, h.tape, h.output, h.size, h.block, h.cell, h.frozen⟩

theorem Kept.of_below {B : Nat} {S : List Nat} {w w' : World} (h : Below w.heap.size w w') : Kept B S w w' :=
  ⟨h.os, h.tape, h.output, h.size, fun k hk _ => h.block k hk, fun o _ hB => h.cell (p := ⟨B, o, none⟩) hB, fun _ hp => h.frozen hp⟩

theorem Kept.below {B : Nat} {S : List Nat} {w w' : World} (h : Kept B S w w') (hB : B ≤ w.heap.size) : Below B w w' :=
  ⟨h.os, h.tape, h.output, h.size, fun k hk => h.block k (by omega) (by omega)⟩

theorem Kept.far {B : Nat} {S : List Nat} {w w' : World} (h : Kept B S w w') {p : Addr} (hp : p.block < w.heap.size) (hB : p.block ≠ B) : w'.cell? p = w.cell? p := World.cell?_of_block (w := w) (h.block p.block hp hB)

theorem Kept.alloc {B : Nat} {S : List Nat} {a w : World} (h : Kept B S a w) (o : Obj) : Kept B S a (w.alloc o) :=
  h.trans (Kept.of_below ((Below.refl _ _).alloc (Nat.le_refl _) o))

theorem Kept.setCell {B : Nat} {S : List Nat} {a w : World} (h : Kept B S a w) {o : Nat} (hS : o ∈ S) (u : Value) : Kept B S a (w.setCell ⟨B, o, none⟩ u) :=
  h.trans ⟨rfl, rfl, rfl, by simp [World.setCell], fun k _ hB => Below.heap_setCell _ _ _ _ hB,
    fun o' ho' _ => World.cell?_setCell_other _ _ _ _ (fun e => ho' (by simp at e; rw [← e]; exact hS)), fun p _ => World.frozen?_setCell _ _ _ _⟩

/-- A store into a block that was not there when 'a' stood. -/
theorem Kept.setNew {B : Nat} {S : List Nat} {a w : World} (h : Kept B S a w) {p : Addr} (hp : a.heap.size ≤ p.block) (hB : B < a.heap.size) (u : Value) : Kept B S a (w.setCell p u) :=
  ⟨h.os, h.tape, h.output, by simpa [World.setCell] using h.size, fun k hk hkB => (Below.heap_setCell _ _ _ _ (by omega)).trans (h.block k hk hkB),
   fun o ho hB' => (World.cell?_setCell_other _ _ _ _ (fun e => by have := congrArg Addr.block e; simp at this; omega)).trans (h.cell o ho hB'),
   fun q hq => (World.frozen?_setCell _ _ _ _).trans (h.frozen q hq)⟩

/-- A row of a block that was not there when 'a' stood, laid anew. -/
theorem Kept.of_below_trans {B : Nat} {S : List Nat} {a w w' : World} (h : Kept B S a w) (hb : Below a.heap.size w w') (hB : B < a.heap.size) : Kept B S a w' :=
  ⟨hb.os.trans h.os, hb.tape.trans h.tape, hb.output.trans h.output, Nat.le_trans h.size hb.size, fun k hk hkB => (hb.block k hk).trans (h.block k hk hkB),
   fun o ho _ => (hb.cell (p := ⟨B, o, none⟩) hB).trans (h.cell o ho hB), fun p hp => (hb.frozen hp).trans (h.frozen p hp)⟩

end Go.Proofs.Ybulkcmcu
