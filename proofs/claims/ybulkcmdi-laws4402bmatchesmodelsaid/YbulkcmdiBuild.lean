import Derived.Test.YbulkcmdiRowI
import Derived.Laws.Tables
namespace Go.Proofs.Ybulkcmdi
open Go.RowKit
theorem fold_list : ∀ (l : List Value) (k : Nat) (cs : Array Value) (i : Nat), ((l.zipIdx k).foldl (fun (cs : Array Value) x => cs.setIfInBounds x.2 x.1) cs)[i]? = if k ≤ i ∧ i < k + l.length ∧ i < cs.size then l[i - k]? else cs[i]?
  | [], k, cs, i => by simp; intro h1 h2; omega
  | v :: l, k, cs, i => by
    rw [List.zipIdx_cons, List.foldl_cons, fold_list l (k + 1) _ i]
    simp only [Array.size_setIfInBounds, List.length_cons, Array.getElem?_setIfInBounds]
    by_cases h1 : k + 1 ≤ i ∧ i < k + 1 + l.length ∧ i < cs.size
    · rw [if_pos h1, if_pos (by omega), show i - k = (i - (k + 1)) + 1 by omega, List.getElem?_cons_succ]
    · rw [if_neg h1]
      by_cases h2 : k = i
      · subst h2
        by_cases h3 : k < cs.size
        · rw [if_pos rfl, if_pos h3, if_pos (by omega)]; simp
        · rw [if_pos rfl, if_neg h3, if_neg (by omega), Array.getElem?_eq_none (by omega)]
      · rw [if_neg h2, if_neg (by omega)]
theorem fold_all (cs new : Array Value) (h : cs.size = new.size) : Array.foldl (fun (cs : Array Value) x => cs.setIfInBounds x.2 x.1) cs new.zipIdx = new := by
  apply Array.ext_getElem?
  intro i
  rw [← Array.foldl_toList, Array.toList_zipIdx, fold_list]
  by_cases h1 : i < new.size
  · rw [if_pos (by simp; omega)]; simp
  · rw [if_neg (by simp; omega), Array.getElem?_eq_none (by omega), Array.getElem?_eq_none (by omega)]
theorem built52 (L : Nat → Int) : Yba.prog.built 52 [(0, .agg (arrN 256 L))] = some (arrN 256 L) := by
  have h : ∀ parts, Yba.prog.built 52 parts = Instr.fill (fun i => #[(0, 256)][i]?) (arrN 256 fun _ => 0) parts := by
    intro parts; kernel_rfl
  rw [h]
  have := fold_all (arrN 256 fun _ => 0) (arrN 256 L) (by rw [arrN_size, arrN_size])
  simp [Instr.fill, arrN_size]
  rw [show (Value.agg (arrN 256 L)).cells = arrN 256 L from rfl]
  rw [Array.size_zipIdx] at this
  exact ⟨⟨arrN_size _ _, by rw [arrN_size]; exact Nat.le_refl _⟩, this⟩
theorem wpList_build52 {ops : Array Oper} {rest : List Oper} {o : Oper} {a : Act} {w : World} {Q : Exit → Act → World → Prop} (hg : o.guard = none) (x : Operand) (ho : o.op = .build 52 #[(0, x)])
    (L : Nat → Int) (hx : a.eval x = .agg (arrN 256 L)) (h : wpList Yba.prog ops Q rest (a.put o.dst (.agg (arrN 256 L))) w) : wpList Yba.prog ops Q (o :: rest) a w := by
  have e : Yba.prog.built 52 ((#[(0, x)].map fun (p : Nat × Operand) => (p.1, a.eval p.2)).toList) = some (arrN 256 L) := by
    have : (#[(0, x)].map fun (p : Nat × Operand) => (p.1, a.eval p.2)).toList = [(0, .agg (arrN 256 L))] := by simp [hx]
    rw [this, built52]
  refine wpList_build hg 52 _ ho (by rw [e]; rfl) ?_
  rw [e]; exact h
end Go.Proofs.Ybulkcmdi
