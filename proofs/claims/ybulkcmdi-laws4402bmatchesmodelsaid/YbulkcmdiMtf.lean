import Derived.Test.YbulkcmdiMisc
import Derived.Deep.WholeRow
namespace Go.Proofs.Ybulkcmdi
open Go.RowKit
set_option linter.unusedVariables false
set_option linter.unusedSimpArgs false

theorem size47 : (Yba.prog.info? 47).map (·.size) = some 256 := by kernel_rfl
/-- A row of n bytes. -/
def arrN (n : Nat) (L : Nat → Int) : Array Value := (Array.range n).map fun i => .int .u8 (L i)
theorem arrN_size (n : Nat) (L : Nat → Int) : (arrN n L).size = n := by simp [arrN]
theorem arrN_get (n : Nat) (L : Nat → Int) (i : Nat) (hi : i < n) : (arrN n L)[i]? = some (.int .u8 (L i)) := by simp [arrN, hi]
theorem arrN_congr (n : Nat) (L M : Nat → Int) (h : ∀ i, i < n → L i = M i) : arrN n L = arrN n M := by
  apply Array.ext
  · simp [arrN]
  · intro i h1 h2
    have : i < n := by simpa [arrN] using h1
    simp [arrN, h i this]
theorem zero47 (w : World) : Sem.run Yba.prog (zeroValue 47) w = .ok (.agg (arrN 256 (fun _ => 0))) w := by kernel_rfl
def upd (L : Nat → Int) (i : Nat) (z : Int) : Nat → Int := fun k => if k = i then z else L k

/-- Block B is a row of n bytes, of type T, that holds L. -/
def RowAt (w : World) (B : Nat) (T : TypeId) (n : Nat) (L : Nat → Int) : Prop := w.heap[B]? = some (.cells (arrN n L) T (0, 0))
theorem RowAt.cell {w : World} {B : Nat} {T : TypeId} {n : Nat} {L : Nat → Int} (h : RowAt w B T n L) (i : Nat) (hi : i < n) : w.cell? ⟨B, i, none⟩ = some (.int .u8 (L i)) := by
  unfold RowAt at h
  simp [World.cell?, h, arrN_get n L i hi]
theorem RowAt.frozen {w : World} {B : Nat} {T : TypeId} {n : Nat} {L : Nat → Int} (h : RowAt w B T n L) (i : Nat) : w.frozen? ⟨B, i, none⟩ = false := by
  unfold RowAt at h
  simp [World.frozen?, h]
theorem RowAt.lt {w : World} {B : Nat} {T : TypeId} {n : Nat} {L : Nat → Int} (h : RowAt w B T n L) : B < w.heap.size := (Array.getElem?_eq_some_iff.1 h).1
theorem RowAt.set {w : World} {B : Nat} {T : TypeId} {n : Nat} {L : Nat → Int} (h : RowAt w B T n L) (i : Nat) (z : Int) : RowAt (w.setCell ⟨B, i, none⟩ (.int .u8 z)) B T n (upd L i z) := by
  unfold RowAt World.setCell at *
  simp only [Array.getElem?_modify, if_true, h, Option.map_some]
  congr 2
  apply Array.ext
  · simp [arrN]
  · intro k h1 h2
    have hk : k < n := by simpa [arrN] using h2
    by_cases e : k = i
    · subst e; simp [arrN, upd]
    · have h3 : k < (arrN n L).size := by simpa [arrN] using hk
      show ((arrN n L).setIfInBounds i (Value.int IntKind.u8 z))[k]'(by simpa [arrN] using hk) = _
      rw [Array.getElem_setIfInBounds h3, if_neg (Ne.symm e)]
      simp [arrN, upd, e]
theorem RowAt.kept {w w' : World} {B : Nat} {T : TypeId} {n : Nat} {L : Nat → Int} {R : Nat → Prop} (h : RowAt w B T n L) (hf : Fr R w w') (hR : ¬ R B) : RowAt w' B T n L := (hf.block B h.lt hR).trans h
theorem RowAt.drewN {w : World} {B : Nat} {T : TypeId} {n : Nat} {L : Nat → Int} (h : RowAt w B T n L) (q : Nat) : RowAt (w.drewN q) B T n L := h.kept (Fr.drewN (fun _ => False) w q) (fun h => h)
theorem RowAt.far {w : World} {B : Nat} {T : TypeId} {n : Nat} {L : Nat → Int} (h : RowAt w B T n L) {a : Addr} (hne : B ≠ a.block) (u : Value) : RowAt (w.setCell a u) B T n L := (Below.heap_setCell _ _ _ _ hne).trans h
theorem RowAt.congr {w : World} {B : Nat} {T : TypeId} {n : Nat} {L M : Nat → Int} (h : RowAt w B T n L) (he : ∀ i, i < n → L i = M i) : RowAt w B T n M := by
  unfold RowAt at *; rw [← arrN_congr n L M he]; exact h

/-! The move-to-front list, plainly. -/
def posOf (L : Nat → Int) (c : Int) : Nat := ((List.range 256).find? (fun p => decide (L p = c))).getD 0
theorem find_range (P : Nat → Bool) (p : Nat) : ∀ n, p < n → P p = true → (∀ k, k < p → P k = false) → (List.range n).find? P = some p
  | 0, h, _, _ => by omega
  | n + 1, h, h1, h2 => by
    rw [List.range_succ, List.find?_append]
    by_cases e : p < n
    · rw [find_range P p n e h1 h2]; rfl
    · obtain rfl : p = n := by omega
      have : (List.range p).find? P = none := by
        rw [List.find?_eq_none]; intro x hx; rw [h2 x (List.mem_range.1 hx)]; simp
      rw [this]; simp [h1]
theorem posOf_eq (L : Nat → Int) (c : Int) (p : Nat) (hp : p < 256) (h1 : L p = c) (h2 : ∀ k, k < p → L k ≠ c) : posOf L c = p := by
  unfold posOf
  rw [find_range _ p 256 hp (by simp [h1]) (fun k hk => by simp [h2 k hk])]
  rfl
theorem posOf_spec (L : Nat → Int) (c : Int) (h : ∃ p, p < 256 ∧ L p = c) : posOf L c < 256 ∧ L (posOf L c) = c ∧ ∀ k, k < posOf L c → L k ≠ c := by
  have key : ∀ n, (∃ p, p < n ∧ L p = c) → ∃ p, p < n ∧ L p = c ∧ ∀ k, k < p → L k ≠ c := by
    intro n
    induction n with
    | zero => rintro ⟨p, hp, _⟩; omega
    | succ n ih =>
      rintro ⟨p, hp, he⟩
      by_cases h' : ∃ p, p < n ∧ L p = c
      · obtain ⟨p', a, b, d⟩ := ih h'; exact ⟨p', by omega, b, d⟩
      · refine ⟨p, hp, he, fun k hk hk2 => h' ⟨k, by omega, hk2⟩⟩
  obtain ⟨p, hp, he, hl⟩ := key 256 h
  rw [posOf_eq L c p hp he hl]
  exact ⟨hp, he, hl⟩
/-- Moved to the front. -/
def mtf1 (L : Nat → Int) (c : Int) : Nat → Int := rot L 0 (posOf L c) (posOf L c + 1)
def mtfL (L : Nat → Int) : List Int → (Nat → Int)
  | [] => L
  | c :: zs => mtfL (mtf1 L c) zs
def mtfR (L : Nat → Int) : List Int → List Int
  | [] => []
  | c :: zs => (posOf L c : Int) :: mtfR (mtf1 L c) zs
theorem mtfL_app (L : Nat → Int) : ∀ a b, mtfL L (a ++ b) = mtfL (mtfL L a) b
  | [], b => rfl
  | c :: a, b => mtfL_app (mtf1 L c) a b
theorem mtfR_app (L : Nat → Int) : ∀ a b, mtfR L (a ++ b) = mtfR L a ++ mtfR (mtfL L a) b
  | [], b => rfl
  | c :: a, b => by simp only [List.cons_append, mtfR, mtfL, mtfR_app (mtf1 L c) a b]
theorem mtfR_len (L : Nat → Int) : ∀ a, (mtfR L a).length = a.length
  | [] => rfl
  | c :: a => by simp [mtfR, mtfR_len (mtf1 L c) a]
def AllIn (L : Nat → Int) : Prop := ∀ c : Int, 0 ≤ c → c < 256 → ∃ p, p < 256 ∧ L p = c
theorem AllIn.mtf1 {L : Nat → Int} (h : AllIn L) (c : Int) (h0 : 0 ≤ c) (h1 : c < 256) : AllIn (mtf1 L c) := by
  intro d d0 d1
  obtain ⟨p, hp, he⟩ := h d d0 d1
  have hpos := (posOf_spec L c (h c h0 h1)).1
  obtain ⟨k, a, b, e⟩ := ((same_rot L 0 (posOf L c) (posOf L c + 1) (Nat.zero_le _) (by omega)).widen (a' := 0) (b' := 256) (Nat.le_refl _) (by omega)).to_ p (Nat.zero_le _) hp
  exact ⟨k, b, e.trans he⟩
theorem AllIn.mtfL {L : Nat → Int} : ∀ (zs : List Int), AllIn L → (∀ z ∈ zs, 0 ≤ z ∧ z < 256) → AllIn (mtfL L zs)
  | [], h, _ => h
  | c :: zs, h, hz => AllIn.mtfL zs (h.mtf1 c (hz c (by simp)).1 (hz c (by simp)).2) (fun z hz' => hz z (by simp [hz']))
/-- The encoder's list while it is walked: the first p - 1 values passed back one place. -/
def shf (L : Nat → Int) (p : Nat) : Nat → Int := fun k => if 1 ≤ k ∧ k < p then L (k - 1) else L k
theorem shf_one (L : Nat → Int) : shf L 1 = L := by funext k; unfold shf; rw [if_neg (by omega)]
theorem shf_next (L : Nat → Int) (p : Nat) (hp : 1 ≤ p) : upd (shf L p) p (L (p - 1)) = shf L (p + 1) := by
  funext k; unfold upd shf; repeat' split
  all_goals first | rfl | (exfalso; omega) | (congr 1; omega)
theorem shf_done (L : Nat → Int) (p : Nat) (hp : 1 ≤ p) : upd (shf L (p + 1)) 0 (L p) = rot L 0 p (p + 1) := by
  funext k; unfold upd shf rot; repeat' split
  all_goals first | rfl | (exfalso; omega) | (congr 1; omega)
end Go.Proofs.Ybulkcmdi
