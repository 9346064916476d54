import Derived.Test.YbulkcmdiFin
namespace Go.Proofs.Ybulkcmdi
open Go.RowKit
set_option linter.unusedVariables false
set_option linter.unusedSimpArgs false

/-- The row of n bytes at block V holds f, and may be written. -/
def ArrF (w : World) (V n : Nat) (f : Nat → Int) : Prop := ∀ j, j < n → w.cell? ⟨V, j, none⟩ = some (.int .u8 (f j)) ∧ w.frozen? ⟨V, j, none⟩ = false
/-- Of w0 nothing has turned but the row at V, which holds f. -/
structure Srt (w0 : World) (V n : Nat) (f : Nat → Int) (w : World) : Prop where
  fr : Fr (fun k => k = V) w0 w
  arr : ArrF w V n f
  hV : V < w0.heap.size
def swp (f : Nat → Int) (i j : Nat) : Nat → Int := fun k => if k = i then f j else if k = j then f i else f k

theorem ArrF.kept {w w' : World} {V n : Nat} {f : Nat → Int} {R : Nat → Prop} (h : ArrF w V n f) (hf : Fr R w w') (hV : V < w.heap.size) (hR : ¬ R V) : ArrF w' V n f := fun j hj =>
  ⟨(hf.cell (p := ⟨V, j, none⟩) hV hR).trans (h j hj).1, (hf.frozen (p := ⟨V, j, none⟩) hV hR).trans (h j hj).2⟩
theorem Srt.start {w0 : World} {V n : Nat} {f : Nat → Int} (h : ArrF w0 V n f) (hV : V < w0.heap.size) : Srt w0 V n f w0 := ⟨Fr.refl _ _, h, hV⟩
theorem Srt.lt {w0 w : World} {V n : Nat} {f : Nat → Int} (h : Srt w0 V n f w) : V < w.heap.size := Nat.lt_of_lt_of_le h.hV h.fr.size
theorem Srt.alloc {w0 w : World} {V n : Nat} {f : Nat → Int} (h : Srt w0 V n f w) (o : Obj) : Srt w0 V n f (w.alloc o) :=
  ⟨h.fr.trans (Fr.alloc _ _ _), h.arr.kept (Fr.alloc (fun _ => False) _ _) h.lt (fun h => h), h.hV⟩
theorem Srt.drewN {w0 w : World} {V n : Nat} {f : Nat → Int} (h : Srt w0 V n f w) (q : Nat) : Srt w0 V n f (w.drewN q) :=
  ⟨h.fr.trans (Fr.drewN _ _ _), h.arr.kept (Fr.drewN (fun _ => False) _ _) h.lt (fun h => h), h.hV⟩
theorem Srt.swap {w0 w : World} {V n : Nat} {f : Nat → Int} (h : Srt w0 V n f w) (i j : Nat) (hi : i < n) (hj : j < n) : Srt w0 V n (swp f i j) ((w.setCell ⟨V, i, none⟩ (.int .u8 (f j))).setCell ⟨V, j, none⟩ (.int .u8 (f i))) := by
  refine ⟨(h.fr.trans (Fr.setCell (R := fun k => k = V) _ rfl _)).trans (Fr.setCell (R := fun k => k = V) _ rfl _), fun k hk => ⟨?_, by rw [World.frozen?_setCell, World.frozen?_setCell]; exact (h.arr k hk).2⟩, h.hV⟩
  unfold swp
  by_cases hkj : k = j
  · subst hkj
    by_cases hki : k = i
    · subst hki; rw [if_pos rfl]; exact World.cell?_setCell_same _ _ _ (World.cell?_setCell_same _ _ _ (h.arr k hk).1)
    · rw [if_neg hki, if_pos rfl]; exact World.cell?_setCell_same _ _ _ (by rw [World.cell?_setCell_other _ _ _ _ (by simp <;> omega)]; exact (h.arr k hk).1)
  · by_cases hki : k = i
    · subst hki; rw [if_pos rfl, World.cell?_setCell_other _ _ _ _ (by simp <;> omega)]; exact World.cell?_setCell_same _ _ _ (h.arr k hk).1
    · rw [if_neg hki, if_neg hkj, World.cell?_setCell_other _ _ _ _ (by simp <;> omega), World.cell?_setCell_other _ _ _ _ (by simp <;> omega)]; exact (h.arr k hk).1
/-- A block of the caller's keeps its cells. -/
theorem Srt.cell {w0 w : World} {V n : Nat} {f : Nat → Int} (h : Srt w0 V n f w) {p : Addr} (hp : p.block < w0.heap.size) (hne : p.block ≠ V) : w.cell? p = w0.cell? p := h.fr.cell hp hne
/-- The sort goes on from another world. -/
theorem Srt.rebase {w0 w w' : World} {V n : Nat} {f g : Nat → Int} (h : Srt w0 V n f w) (k : Srt w V n g w') : Srt w0 V n g w' := ⟨h.fr.trans k.fr, k.arr, h.hV⟩

/-- What is asked of swap: function sf, bound to two values. -/
def SwapOK (sf : Nat) (s1 s2 : Value) (V n : Nat) : Prop := ∀ (w : World) (f : Nat → Int), ArrF w V n f → ∀ i j : Nat, i < n → j < n →
  Sem.run Yba.prog (callFunc sf #[.int .i64 (i : Int), .int .i64 (j : Int), s1, s2]) w = .ok (.value (.tuple #[])) ((w.setCell ⟨V, i, none⟩ (.int .u8 (f j))).setCell ⟨V, j, none⟩ (.int .u8 (f i)))

/-- swapRange: the ranges [a, a+n) and [b, b+n) exchanged. -/
def swr (f : Nat → Int) (a b n : Nat) : Nat → Int := fun k => if a ≤ k ∧ k < a + n then f (k - a + b) else if b ≤ k ∧ k < b + n then f (k - b + a) else f k
theorem swr_zero (f : Nat → Int) (a b : Nat) : swr f a b 0 = f := by
  funext k; unfold swr; rw [if_neg (by omega), if_neg (by omega)]
theorem swr_succ (f : Nat → Int) (a b n : Nat) (hab : a + n + 1 ≤ b) : swp (swr f a b n) (a + n) (b + n) = swr f a b (n + 1) := by
  funext k
  unfold swp swr
  repeat' split
  all_goals first | rfl | (exfalso; omega) | (congr 1; omega)

set_option maxHeartbeats 800000 in
theorem swapRange_u (ls : Value) (sf : Nat) (s1 s2 : Value) (V N : Nat) (w0 : World) (f : Nat → Int) (a b n : Nat) (w : World) (hN : N ≤ 1000000) (hsw : SwapOK sf s1 s2 V N) (h : Srt w0 V N f w) (hab : a + n ≤ b) (hb : b + n ≤ N) :
    Calls Yba.prog 42 #[.agg #[ls, .func (.func sf) #[] #[s1, s2]], .int .i64 (a : Int), .int .i64 (b : Int), .int .i64 (n : Int)] w fun e w' => e = .returned (.tuple #[]) ∧ Srt w0 V N (swr f a b n) w' := by
  have HS : Hid (SwapOK sf s1 s2 V N) := hsw
  clear hsw
  have hA := h.alloc (.cells #[ls, .func (.func sf) #[] #[s1, s2]] 74)
  have hl := h.lt
  have hw0 := h.fr.size
  have hc1 : (w.alloc (.cells #[ls, .func (.func sf) #[] #[s1, s2]] 74)).cell? ⟨w.heap.size, 1, none⟩ = some (.func (.func sf) #[] #[s1, s2]) := World.cell?_alloc_new _ _ _ _
  go_enter Yba.func42, Yba.ntmps42
  go_wp2
  go_loopw [8] (fun i wr => ∃ k : Nat, k ≤ n ∧ i = .int .i64 (k : Int) ∧ Srt w0 V N (swr f a b k) wr ∧ wr.cell? ⟨w.heap.size, 1, none⟩ = some (.func (.func sf) #[] #[s1, s2])) (fun i _ => n - (intOf i).toNat)
  case atStart => exact ⟨0, Nat.zero_le _, rfl, by rw [swr_zero]; exact hA, hc1⟩
  case round =>
    obtain ⟨k, hk, rfl, hS, hc⟩ := hrel
    by_cases hlt : k < n
    · have hrun := HS.out wr (swr f a b k) hS.arr (a + k) (b + k) (by omega) (by omega)
      obtain ⟨A, hA1⟩ : ∃ A : Nat, a + k = A := ⟨_, rfl⟩
      obtain ⟨B, hB1⟩ : ∃ B : Nat, b + k = B := ⟨_, rfl⟩
      have hAI : (a : Int) + k = (A : Int) := by omega
      have hBI : (b : Int) + k = (B : Int) := by omega
      rw [hA1, hB1] at hrun
      have hnext : Srt w0 V N (swr f a b (k + 1)) ((wr.setCell ⟨V, A, none⟩ (.int .u8 (swr f a b k B))).setCell ⟨V, B, none⟩ (.int .u8 (swr f a b k A))) := by
        rw [← swr_succ f a b k (by omega), hA1, hB1]
        exact hS.swap A B (by omega) (by omega)
      have hc' : ((wr.setCell ⟨V, A, none⟩ (.int .u8 (swr f a b k B))).setCell ⟨V, B, none⟩ (.int .u8 (swr f a b k A))).cell? ⟨w.heap.size, 1, none⟩ = some (.func (.func sf) #[] #[s1, s2]) := by
        rw [World.cell?_setCell_other _ _ _ _ (by simp <;> omega), World.cell?_setCell_other _ _ _ _ (by simp <;> omega)]; exact hc
      have HN := (show Hid _ from hnext)
      have HC' := (show Hid _ from hc')
      clear hnext hc' hS hA1 hB1 hA
      go_wp2
      go_roundw
      case rel => exact ⟨k + 1, by omega, by go_num, HN.out, HC'.out⟩
      case measure => simp [intOf]; omega
    · obtain rfl : k = n := by omega
      go_wp2
      go_end0
      exact ⟨rfl, hS⟩
end Go.Proofs.Ybulkcmdi
