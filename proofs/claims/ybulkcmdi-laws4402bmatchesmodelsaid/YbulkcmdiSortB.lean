import Derived.Test.YbulkcmdiSortA
namespace Go.Proofs.Ybulkcmdi
open Go.RowKit
set_option linter.unusedVariables false
set_option linter.unusedSimpArgs false

/-- rotate: [a, m) and [m, b) exchanged. -/
def rot (f : Nat → Int) (a m b : Nat) : Nat → Int := fun k => if a ≤ k ∧ k < a + (b - m) then f (k - a + m) else if a + (b - m) ≤ k ∧ k < b then f (k - (b - m)) else f k
theorem rot_big (f : Nat → Int) (m i j : Nat) (hi : i ≤ m) (hij : j < i) : rot (swr f (m - i) m j) (m - (i - j)) m (m + j) = rot f (m - i) m (m + j) := by
  funext k
  unfold rot swr
  repeat' split
  all_goals first | rfl | (exfalso; omega) | (congr 1; omega)
theorem rot_small (f : Nat → Int) (m i j : Nat) (hi : i ≤ m) (hij : i < j) : rot (swr f (m - i) (m + j - i) i) (m - i) m (m + (j - i)) = rot f (m - i) m (m + j) := by
  funext k
  unfold rot swr
  repeat' split
  all_goals first | rfl | (exfalso; omega) | (congr 1; omega)
theorem rot_even (f : Nat → Int) (m i : Nat) (hi : i ≤ m) : swr f (m - i) m i = rot f (m - i) m (m + i) := by
  funext k
  unfold rot swr
  repeat' split
  all_goals first | rfl | (exfalso; omega) | (congr 1; omega)

set_option maxHeartbeats 1600000 in
theorem rotate_u (ls : Value) (hls : ∃ lf la lb, ls = .func lf la lb) (sf : Nat) (s1 s2 : Value) (V N : Nat) (w0 : World) (f : Nat → Int) (a m b : Nat) (w : World) (hN : N ≤ 1000000) (hsw : SwapOK sf s1 s2 V N) (h : Srt w0 V N f w) (ham : a < m) (hmb : m < b) (hb : b ≤ N) :
    Calls Yba.prog 41 #[.agg #[ls, .func (.func sf) #[] #[s1, s2]], .int .i64 (a : Int), .int .i64 (m : Int), .int .i64 (b : Int)] w fun e w' => e = .returned (.tuple #[]) ∧ Srt w0 V N (rot f a m b) w' := by
  have HS : Hid (SwapOK sf s1 s2 V N) := hsw
  clear hsw
  have hA := h.alloc (.cells #[ls, .func (.func sf) #[] #[s1, s2]] 74)
  have hl := h.lt
  have hDV : V ≠ w.heap.size := by omega
  have cc0 : (w.alloc (.cells #[ls, .func (.func sf) #[] #[s1, s2]] 74)).cell? ⟨w.heap.size, 0, none⟩ = some ls := World.cell?_alloc_new _ _ _ _
  have cc1 : (w.alloc (.cells #[ls, .func (.func sf) #[] #[s1, s2]] 74)).cell? ⟨w.heap.size, 1, none⟩ = some (.func (.func sf) #[] #[s1, s2]) := World.cell?_alloc_new _ _ _ _
  obtain ⟨lf, la, lb, rfl⟩ := hls
  go_enter Yba.func41, Yba.ntmps41
  go_wp2
  go_loopw [8, 9] (fun ii jj wr => ∃ (i j : Nat) (g : Nat → Int), 0 < i ∧ 0 < j ∧ ii = .int .i64 (i : Int) ∧ jj = .int .i64 (j : Int) ∧ i ≤ m ∧ m + j ≤ N ∧ rot g (m - i) m (m + j) = rot f a m b ∧ Srt w0 V N g wr ∧ w.heap.size < wr.heap.size ∧ wr.cell? ⟨w.heap.size, 0, none⟩ = some (.func lf la lb) ∧ wr.cell? ⟨w.heap.size, 1, none⟩ = some (.func (.func sf) #[] #[s1, s2])) (fun ii jj _ => (intOf ii).toNat + (intOf jj).toNat)
  case atStart => exact ⟨m - a, b - m, f, by omega, by omega, by congr 1; omega, by congr 1; omega, by omega, by omega, by rw [show m - (m - a) = a by omega, show m + (b - m) = b by omega], hA, by simp, cc0, cc1⟩
  case round =>
    obtain ⟨i, j, g, hi0, hj0, rfl, rfl, him, hjN, hrot, hS, hD1, c0, c1⟩ := hrel
    have HR : Hid (rot g (m - i) m (m + j) = rot f a m b) := hrot
    clear hrot hA cc0 cc1
    by_cases hij : i = j
    · subst hij
      have key := swapRange_u (.func lf la lb) sf s1 s2 V N wr g (m - i) m i wr hN HS.out (Srt.start hS.arr hS.lt) (by omega) (by omega)
      obtain ⟨A, hA1⟩ : ∃ A : Nat, m - i = A := ⟨_, rfl⟩
      have hAI : (m : Int) - i = (A : Int) := by omega
      rw [hA1] at key
      have HK : Hid (Srt w0 V N g wr) := hS
      clear hS
      go_wp2_with fail
      refine key.mono ?_
      rintro e w2 ⟨rfl, h2⟩
      have hS2 := (show Srt w0 V N g wr from HK.out).rebase h2
      rw [← hA1, rot_even g m i him, HR.out] at hS2
      clear h2 key
      go_wp2
      go_end0
      exact ⟨rfl, hS2⟩
    · have hne : ((i : Int) == j) = false := by simp; omega
      by_cases hgt : j < i
      · have key := swapRange_u (.func lf la lb) sf s1 s2 V N wr g (m - i) m j wr hN HS.out (Srt.start hS.arr hS.lt) (by omega) (by omega)
        obtain ⟨A, hA1⟩ : ∃ A : Nat, (m - i) = A := ⟨_, rfl⟩
        have hAI : (m : Int) - i = (A : Int) := by omega
        rw [hA1] at key
        have HK : Hid (Srt w0 V N g wr) := hS
        clear hS
        go_wp2_with fail
        refine key.mono ?_
        rintro e w2 ⟨rfl, h2⟩
        have c0' := (h2.cell (p := ⟨w.heap.size, 0, none⟩) hD1 (Ne.symm hDV)).trans c0
        have c1' := (h2.cell (p := ⟨w.heap.size, 1, none⟩) hD1 (Ne.symm hDV)).trans c1
        have hS2 := (show Srt w0 V N g wr from HK.out).rebase h2
        have hsz2 := h2.fr.size
        rw [← hA1] at hS2
        clear h2 key
        go_wp2
        go_roundw
        case rel => exact ⟨i - j, j, _, by omega, by omega, by first | rfl | (congr 1; omega), by first | rfl | (congr 1; omega), by omega, by omega, (rot_big g m i j him hgt).trans HR.out, hS2, by omega, c0', c1'⟩
        case measure => simp [intOf]; omega
      · have key := swapRange_u (.func lf la lb) sf s1 s2 V N wr g (m - i) (m + j - i) i wr hN HS.out (Srt.start hS.arr hS.lt) (by omega) (by omega)
        obtain ⟨A, hA1⟩ : ∃ A : Nat, (m - i) = A := ⟨_, rfl⟩
        have hAI : (m : Int) - i = (A : Int) := by omega
        obtain ⟨B, hB1⟩ : ∃ B : Nat, m + j - i = B := ⟨_, rfl⟩
        have hBI : (m : Int) + j - i = (B : Int) := by omega
        rw [hA1, hB1] at key
        have HK : Hid (Srt w0 V N g wr) := hS
        clear hS
        go_wp2_with fail
        refine key.mono ?_
        rintro e w2 ⟨rfl, h2⟩
        have c0' := (h2.cell (p := ⟨w.heap.size, 0, none⟩) hD1 (Ne.symm hDV)).trans c0
        have c1' := (h2.cell (p := ⟨w.heap.size, 1, none⟩) hD1 (Ne.symm hDV)).trans c1
        have hS2 := (show Srt w0 V N g wr from HK.out).rebase h2
        have hsz2 := h2.fr.size
        rw [← hA1, ← hB1] at hS2
        clear h2 key
        go_wp2
        go_roundw
        case rel => exact ⟨i, j - i, _, by omega, by omega, by first | rfl | (congr 1; omega), by first | rfl | (congr 1; omega), by omega, by omega, (rot_small g m i j him (by omega)).trans HR.out, hS2, by omega, c0', c1'⟩
        case measure => simp [intOf]; omega
end Go.Proofs.Ybulkcmdi
