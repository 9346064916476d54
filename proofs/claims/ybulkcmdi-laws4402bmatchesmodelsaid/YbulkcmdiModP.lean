import Derived.Test.YbulkcmdiSrtQ
namespace Go.Proofs.Ybulkcmdi
open Go.RowKit
set_option linter.unusedVariables false
set_option linter.unusedSimpArgs false

/-! The model's plain side: the shift, the choice of the next group. -/
/-- The list while its first p values are passed back, from the back, down to j. -/
def shd (L : Nat → Int) (p j : Nat) : Nat → Int := fun k => if j < k ∧ k ≤ p then L (k - 1) else L k
theorem shd_top (L : Nat → Int) (p : Nat) : shd L p p = L := by funext k; unfold shd; rw [if_neg (by omega)]
theorem shd_next (L : Nat → Int) (p j : Nat) (hj : 0 < j) (hp : j ≤ p) : upd (shd L p j) j (L (j - 1)) = shd L p (j - 1) := by
  funext k; unfold upd shd; repeat' split
  all_goals first | rfl | (exfalso; omega) | (congr 1; omega)
theorem shd_done (L : Nat → Int) (p : Nat) : upd (shd L p 0) 0 (L p) = rot L 0 p (p + 1) := by
  funext k; unfold upd shd rot; repeat' split
  all_goals first | rfl | (exfalso; omega) | (congr 1; omega)

/-- What is left: counted values that are not among the first r groups. -/
def Left (cnt : Nat → Nat) (G : List Int) (r : Nat) (v : Nat) : Prop := 0 < cnt v ∧ (v : Int) ∉ G.take r
/-- The best of the values below v. -/
def Best (cnt : Nat → Nat) (G : List Int) (r v : Nat) (b : Int) : Prop :=
  (b = -1 ∧ ∀ u, u < v → ¬ Left cnt G r u) ∨ ∃ n : Nat, b = n ∧ n < v ∧ Left cnt G r n ∧ ∀ u, u < v → Left cnt G r u → u = n ∨ cLT cnt (n : Int) (u : Int)
theorem best_start (cnt : Nat → Nat) (G : List Int) (r : Nat) : Best cnt G r 0 (-1) := Or.inl ⟨rfl, fun u hu => by omega⟩
theorem best_not {cnt : Nat → Nat} {G : List Int} {r v : Nat} {b : Int} (h : Best cnt G r v b) (hn : ¬ Left cnt G r v) : Best cnt G r (v + 1) b := by
  rcases h with ⟨rfl, h⟩ | ⟨n, rfl, h1, h2, h3⟩
  · refine Or.inl ⟨rfl, fun u hu => ?_⟩
    by_cases e : u = v
    · rw [e]; exact hn
    · exact h u (by omega)
  · refine Or.inr ⟨n, rfl, by omega, h2, fun u hu hl => ?_⟩
    by_cases e : u = v
    · exact absurd (e ▸ hl) hn
    · exact h3 u (by omega) hl
theorem best_first {cnt : Nat → Nat} {G : List Int} {r v : Nat} (h : Best cnt G r v (-1)) (hl : Left cnt G r v) : Best cnt G r (v + 1) v := by
  rcases h with ⟨_, h⟩ | ⟨n, e, _⟩
  · refine Or.inr ⟨v, rfl, by omega, hl, fun u hu hu2 => ?_⟩
    by_cases e : u = v
    · exact Or.inl e
    · exact absurd hu2 (h u (by omega))
  · omega
theorem best_more {cnt : Nat → Nat} {G : List Int} {r v n : Nat} (h : Best cnt G r v n) (hl : Left cnt G r v) (hc : cnt n < cnt v) : Best cnt G r (v + 1) v := by
  rcases h with ⟨e, h⟩ | ⟨n', e, h1, h2, h3⟩
  · omega
  · obtain rfl : n = n' := by omega
    refine Or.inr ⟨v, rfl, by omega, hl, fun u hu hu2 => ?_⟩
    by_cases e : u = v
    · exact Or.inl e
    · right
      rcases h3 u (by omega) hu2 with rfl | h
      · left; simpa using hc
      · unfold cLT at *; simp at *; omega
theorem best_same {cnt : Nat → Nat} {G : List Int} {r v n : Nat} (h : Best cnt G r v n) (hl : Left cnt G r v) (hc : ¬ cnt n < cnt v) : Best cnt G r (v + 1) n := by
  rcases h with ⟨e, h⟩ | ⟨n', e, h1, h2, h3⟩
  · omega
  · obtain rfl : n = n' := by omega
    refine Or.inr ⟨n, rfl, by omega, h2, fun u hu hu2 => ?_⟩
    by_cases e : u = v
    · right; rw [e]; unfold cLT; simp; omega
    · exact h3 u (by omega) hu2
/-- The best of all values is the next group's. -/
theorem best_next {cnt : Nat → Nat} {G : List Int} {r : Nat} {b : Int} (ho : Ordered cnt G) (h : Best cnt G r 256 b) (hr : r < G.length) : b = G.getD r 0 := by
  have hm : G.getD r 0 ∈ G := by simp [hr]
  obtain ⟨v, hv, hv1, hv2⟩ := (ho.mem _).1 hm
  have hnt : (v : Int) ∉ G.take r := by
    intro hin
    obtain ⟨i, hi, e⟩ := List.getElem_of_mem hin
    have hi' : i < r := by simp at hi; omega
    rw [List.getElem_take] at e
    have : G.getD i 0 = G.getD r 0 := by rw [hv, ← e]; simp [show i < G.length by omega]
    have := ho.inj i r (by omega) hr this
    omega
  have hL : Left cnt G r v := ⟨hv2, hnt⟩
  rcases h with ⟨_, h⟩ | ⟨n, rfl, h1, h2, h3⟩
  · exact absurd hL (h v hv1)
  · rcases h3 v hv1 hL with rfl | h
    · exact hv.symm
    · exfalso
      have hn : (n : Int) ∈ G := (ho.mem _).2 ⟨n, rfl, h1, h2.1⟩
      obtain ⟨i, hi, e⟩ := List.getElem_of_mem hn
      have hg : G.getD i 0 = n := by simp [hi, e]
      rcases Nat.lt_trichotomy i r with q | q | q
      · exact h2.2 (by rw [← e]; exact List.mem_iff_getElem.2 ⟨i, by simp; omega, by simp⟩)
      · subst q; rw [hg] at hv; rw [hv] at h; unfold cLT at h; omega
      · have h4 := ho.srt r i q hi
        rw [hg, hv] at h4
        unfold cLT at h h4; omega
theorem best_none {cnt : Nat → Nat} {G : List Int} {r : Nat} {b : Int} (ho : Ordered cnt G) (h : Best cnt G r 256 b) (hr : G.length ≤ r) : b = -1 := by
  rcases h with ⟨e, _⟩ | ⟨n, rfl, h1, h2, _⟩
  · exact e
  · exfalso
    apply h2.2
    rw [List.take_of_length_le hr]
    exact (ho.mem _).2 ⟨n, rfl, h1, h2.1⟩
theorem sel_take (v : Int) (zs rs : List Int) (hl : zs.length = rs.length) (k : Nat) (hk : k < zs.length) : sel v (zs.take (k + 1)) (rs.take (k + 1)) = sel v (zs.take k) (rs.take k) ++ (if zs.getD k 0 = v then [rs.getD k 0] else []) := by
  rw [take_next zs k hk, take_next rs k (by omega), sel_app _ _ _ _ _ (by simp; omega)]
  congr 1
/-- Which values were seen. -/
def sn (ps : List Int) : Nat → Bool := fun v => decide ((v : Int) ∈ ps)
theorem sn_new (ps : List Int) (c : Int) (h0 : 0 ≤ c) : sn (ps ++ [c]) = updB (sn ps) c.toNat true := by
  funext v; unfold sn updB
  by_cases h : v = c.toNat
  · rw [if_pos h]; have : (v : Int) = c := by omega
    simp [this]
  · rw [if_neg h]; have : (v : Int) ≠ c := by omega
    simp [this]
theorem sn_old (ps : List Int) (c : Int) (h : c ∈ ps) : sn (ps ++ [c]) = sn ps := by
  funext v; unfold sn
  by_cases e : (v : Int) = c
  · simp [e, h]
  · simp [e]
end Go.Proofs.Ybulkcmdi
