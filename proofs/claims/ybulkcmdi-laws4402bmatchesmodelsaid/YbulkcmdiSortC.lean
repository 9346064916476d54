import Derived.Test.YbulkcmdiSortB
namespace Go.Proofs.Ybulkcmdi
open Go.RowKit
set_option linter.unusedVariables false
set_option linter.unusedSimpArgs false

section
variable (LT : Int → Int → Prop)
def SortedOn (f : Nat → Int) (a b : Nat) : Prop := ∀ i j, a ≤ i → i < j → j < b → LT (f i) (f j)
/-- What 'less' of an element of the right part and one of the left says. -/
def Cross (lt : Int → Int → Bool) (f : Nat → Int) (a m b : Nat) : Prop := ∀ i j, a ≤ i → i < m → m ≤ j → j < b → (lt (f j) (f i) = true → LT (f j) (f i)) ∧ (lt (f j) (f i) = false → LT (f i) (f j))
structure Merged (f h : Nat → Int) (a b : Nat) : Prop where
  out : ∀ k, ¬ (a ≤ k ∧ k < b) → h k = f k
  srt : SortedOn LT h a b
  from_ : ∀ k, a ≤ k → k < b → ∃ k', a ≤ k' ∧ k' < b ∧ h k = f k'
  to_ : ∀ k', a ≤ k' → k' < b → ∃ k, a ≤ k ∧ k < b ∧ h k = f k'
end
/-- The same values, otherwise placed within [a, b). -/
structure SameOn (f h : Nat → Int) (a b : Nat) : Prop where
  out : ∀ k, ¬ (a ≤ k ∧ k < b) → h k = f k
  from_ : ∀ k, a ≤ k → k < b → ∃ k', a ≤ k' ∧ k' < b ∧ h k = f k'
  to_ : ∀ k', a ≤ k' → k' < b → ∃ k, a ≤ k ∧ k < b ∧ h k = f k'
theorem SameOn.refl (f : Nat → Int) (a b : Nat) : SameOn f f a b := ⟨fun _ _ => rfl, fun k h1 h2 => ⟨k, h1, h2, rfl⟩, fun k h1 h2 => ⟨k, h1, h2, rfl⟩⟩
theorem SameOn.trans {f g h : Nat → Int} {a b : Nat} (x : SameOn f g a b) (y : SameOn g h a b) : SameOn f h a b :=
  ⟨fun k hk => (y.out k hk).trans (x.out k hk),
   fun k h1 h2 => by obtain ⟨k1, a1, b1, e1⟩ := y.from_ k h1 h2; obtain ⟨k2, a2, b2, e2⟩ := x.from_ k1 a1 b1; exact ⟨k2, a2, b2, e1.trans e2⟩,
   fun k h1 h2 => by obtain ⟨k1, a1, b1, e1⟩ := x.to_ k h1 h2; obtain ⟨k2, a2, b2, e2⟩ := y.to_ k1 a1 b1; exact ⟨k2, a2, b2, e2.trans e1⟩⟩
theorem SameOn.widen {f h : Nat → Int} {a b a' b' : Nat} (x : SameOn f h a b) (ha : a' ≤ a) (hb : b ≤ b') : SameOn f h a' b' :=
  ⟨fun k hk => x.out k (by omega),
   fun k h1 h2 => by
    by_cases hk : a ≤ k ∧ k < b
    · obtain ⟨k1, a1, b1, e1⟩ := x.from_ k hk.1 hk.2; exact ⟨k1, by omega, by omega, e1⟩
    · exact ⟨k, h1, h2, x.out k hk⟩,
   fun k h1 h2 => by
    by_cases hk : a ≤ k ∧ k < b
    · obtain ⟨k1, a1, b1, e1⟩ := x.to_ k hk.1 hk.2; exact ⟨k1, by omega, by omega, e1⟩
    · exact ⟨k, h1, h2, x.out k hk⟩⟩
theorem same_rot (f : Nat → Int) (a m b : Nat) (h1 : a ≤ m) (h2 : m ≤ b) : SameOn f (rot f a m b) a b := by
  refine ⟨fun k hk => ?_, fun k ha hb => ?_, fun k ha hb => ?_⟩
  · unfold rot; rw [if_neg (by omega), if_neg (by omega)]
  · unfold rot
    by_cases h : a ≤ k ∧ k < a + (b - m)
    · rw [if_pos h]; exact ⟨_, by omega, by omega, rfl⟩
    · rw [if_neg h, if_pos (by omega)]; exact ⟨_, by omega, by omega, rfl⟩
  · by_cases h : m ≤ k
    · refine ⟨k - m + a, by omega, by omega, ?_⟩
      unfold rot; rw [if_pos (by omega)]; congr 1; omega
    · refine ⟨k + (b - m), by omega, by omega, ?_⟩
      unfold rot; rw [if_neg (by omega), if_pos (by omega)]; congr 1; omega
theorem Merged.same {LT : Int → Int → Prop} {f h : Nat → Int} {a b : Nat} (x : Merged LT f h a b) : SameOn f h a b := ⟨x.out, x.from_, x.to_⟩
theorem Merged.of {LT : Int → Int → Prop} {f h : Nat → Int} {a b : Nat} (x : SameOn f h a b) (s : SortedOn LT h a b) : Merged LT f h a b := ⟨x.out, s, x.from_, x.to_⟩
theorem byt_rot {f : Nat → Int} (a m b : Nat) (h : ∀ k, 0 ≤ f k ∧ f k < 256) : ∀ k, 0 ≤ rot f a m b k ∧ rot f a m b k < 256 := by
  intro k; unfold rot; repeat' split
  all_goals exact h _
theorem byt_swp {f : Nat → Int} (a b : Nat) (h : ∀ k, 0 ≤ f k ∧ f k < 256) : ∀ k, 0 ≤ swp f a b k ∧ swp f a b k < 256 := by
  intro k; unfold swp; repeat' split
  all_goals exact h _

theorem rot_none_l (f : Nat → Int) (m b : Nat) : rot f m m b = f := by
  funext k; unfold rot; repeat' split
  all_goals first | rfl | (exfalso; omega) | (congr 1; omega)
theorem rot_none_r (f : Nat → Int) (a m : Nat) : rot f a m m = f := by
  funext k; unfold rot; repeat' split
  all_goals first | rfl | (exfalso; omega) | (congr 1; omega)
/-- One element moved up, step by step. -/
theorem rot_up (f : Nat → Int) (a i : Nat) (hi : a + 1 ≤ i) : swp (rot f a (a + 1) i) (i - 1) i = rot f a (a + 1) (i + 1) := by
  funext k; unfold rot swp; dsimp only; repeat' split
  all_goals first | rfl | (exfalso; omega) | (congr 1; omega)
/-- One element moved down, step by step. -/
theorem rot_down (f : Nat → Int) (m i : Nat) (hi : 1 ≤ i) (him : i ≤ m) : swp (rot f i m (m + 1)) i (i - 1) = rot f (i - 1) m (m + 1) := by
  funext k; unfold rot swp; dsimp only; repeat' split
  all_goals first | rfl | (exfalso; omega) | (congr 1; omega)

section
variable {LT : Int → Int → Prop}
theorem sorted_join {h : Nat → Int} {a mid b : Nat} (h1 : SortedOn LT h a mid) (h2 : SortedOn LT h mid b) (h3 : ∀ i j, a ≤ i → i < mid → mid ≤ j → j < b → LT (h i) (h j)) : SortedOn LT h a b := by
  intro i j ha hij hb
  by_cases hj : j < mid
  · exact h1 i j ha hij hj
  · by_cases hi : i < mid
    · exact h3 i j ha hi (by omega) hb
    · exact h2 i j (by omega) hij hb

/-- a < m = a + 1: the one element of the left goes to its place i. -/
theorem merge_left1 (tr : ∀ x y z, LT x y → LT y z → LT x z) (f : Nat → Int) (a i b : Nat) (lt : Int → Int → Bool) (hi : a + 1 ≤ i) (hb : i ≤ b) (hs : SortedOn LT f (a + 1) b) (hc : Cross LT lt f a (a + 1) b) (h1 : i = a + 1 ∨ lt (f (i - 1)) (f a) = true) (h2 : i = b ∨ lt (f i) (f a) = false) : Merged LT f (rot f a (a + 1) i) a b := by
  refine Merged.of ((same_rot f a (a + 1) i (by omega) hi).widen (Nat.le_refl _) hb) ?_
  have lo : ∀ k, a + 1 ≤ k → k < i → LT (f k) (f a) := by
    intro k hk1 hk2
    have hi' : LT (f (i - 1)) (f a) := (hc a (i - 1) (Nat.le_refl _) (by omega) (by omega) (by omega)).1 (by rcases h1 with h | h; omega; exact h)
    by_cases e : k = i - 1
    · rw [e]; exact hi'
    · exact tr _ _ _ (hs k (i - 1) hk1 (by omega) (by omega)) hi'
  have hi2 : ∀ k, i ≤ k → k < b → LT (f a) (f k) := by
    intro k hk1 hk2
    have hi' : LT (f a) (f i) := (hc a i (Nat.le_refl _) (by omega) (by omega) (by omega)).2 (by rcases h2 with h | h; omega; exact h)
    by_cases e : k = i
    · rw [e]; exact hi'
    · exact tr _ _ _ hi' (hs i k hi (by omega) hk2)
  have v : ∀ k, a ≤ k → k < b → (k < i - 1 ∧ rot f a (a + 1) i k = f (k + 1)) ∨ (k = i - 1 ∧ rot f a (a + 1) i k = f a) ∨ (i ≤ k ∧ rot f a (a + 1) i k = f k) := by
    intro k h1 h2
    unfold rot
    by_cases h : k < i - 1
    · left; refine ⟨h, ?_⟩; rw [if_pos (by omega)]; congr 1; omega
    · right
      by_cases h' : k = i - 1
      · left; refine ⟨h', ?_⟩; rw [if_neg (by omega), if_pos (by omega)]; congr 1; omega
      · right; refine ⟨by omega, ?_⟩; rw [if_neg (by omega), if_neg (by omega)]
  intro p q hp hpq hq
  rcases v p hp (by omega) with ⟨a1, e1⟩ | ⟨a1, e1⟩ | ⟨a1, e1⟩ <;> rcases v q (by omega) hq with ⟨a2, e2⟩ | ⟨a2, e2⟩ | ⟨a2, e2⟩ <;> rw [e1, e2] <;> first | (exfalso; omega) | skip
  · exact hs _ _ (by omega) (by omega) (by omega)
  · exact lo _ (by omega) (by omega)
  · exact hs _ _ (by omega) (by omega) (by omega)
  · exact hi2 _ (by omega) (by omega)
  · exact hs _ _ (by omega) (by omega) (by omega)

/-- b = m + 1: the one element of the right goes to its place i. -/
theorem merge_right1 (tr : ∀ x y z, LT x y → LT y z → LT x z) (f : Nat → Int) (a i m : Nat) (lt : Int → Int → Bool) (hi : a ≤ i) (him : i ≤ m) (hs : SortedOn LT f a m) (hc : Cross LT lt f a m (m + 1)) (h1 : i = a ∨ lt (f m) (f (i - 1)) = false) (h2 : i = m ∨ lt (f m) (f i) = true) : Merged LT f (rot f i m (m + 1)) a (m + 1) := by
  refine Merged.of ((same_rot f i m (m + 1) him (by omega)).widen hi (Nat.le_refl _)) ?_
  have lo : ∀ k, a ≤ k → k < i → LT (f k) (f m) := by
    intro k hk1 hk2
    have hi' : LT (f (i - 1)) (f m) := (hc (i - 1) m (by omega) (by omega) (Nat.le_refl _) (by omega)).2 (by rcases h1 with h | h; omega; exact h)
    by_cases e : k = i - 1
    · rw [e]; exact hi'
    · exact tr _ _ _ (hs k (i - 1) hk1 (by omega) (by omega)) hi'
  have hi2 : ∀ k, i ≤ k → k < m → LT (f m) (f k) := by
    intro k hk1 hk2
    have hi' : LT (f m) (f i) := (hc i m hi (by omega) (Nat.le_refl _) (by omega)).1 (by rcases h2 with h | h; omega; exact h)
    by_cases e : k = i
    · rw [e]; exact hi'
    · exact tr _ _ _ hi' (hs i k hi (by omega) hk2)
  have v : ∀ k, a ≤ k → k < m + 1 → (k < i ∧ rot f i m (m + 1) k = f k) ∨ (k = i ∧ rot f i m (m + 1) k = f m) ∨ (i < k ∧ rot f i m (m + 1) k = f (k - 1)) := by
    intro k h1 h2
    unfold rot
    by_cases h : k < i
    · left; refine ⟨h, ?_⟩; rw [if_neg (by omega), if_neg (by omega)]
    · right
      by_cases h' : k = i
      · left; refine ⟨h', ?_⟩; rw [if_pos (by omega)]; congr 1; omega
      · right; refine ⟨by omega, ?_⟩; rw [if_neg (by omega), if_pos (by omega)]; congr 1; omega
  intro p q hp hpq hq
  rcases v p hp (by omega) with ⟨a1, e1⟩ | ⟨a1, e1⟩ | ⟨a1, e1⟩ <;> rcases v q (by omega) hq with ⟨a2, e2⟩ | ⟨a2, e2⟩ | ⟨a2, e2⟩ <;> rw [e1, e2] <;> first | (exfalso; omega) | skip
  · exact hs _ _ (by omega) (by omega) (by omega)
  · exact lo _ (by omega) (by omega)
  · exact hs _ _ (by omega) (by omega) (by omega)
  · exact hi2 _ (by omega) (by omega)
  · exact hs _ _ (by omega) (by omega) (by omega)

/-- The two halves behind the rotation. -/
structure Halves (LT : Int → Int → Prop) (lt : Int → Int → Bool) (g : Nat → Int) (a s mid e b : Nat) : Prop where
  s1 : SortedOn LT g a s
  s2 : SortedOn LT g s mid
  s3 : SortedOn LT g mid e
  s4 : SortedOn LT g e b
  c1 : Cross LT lt g a s mid
  c2 : Cross LT lt g mid e b
  sep : ∀ i j, a ≤ i → i < mid → mid ≤ j → j < b → LT (g i) (g j)

theorem halves (tr : ∀ x y z, LT x y → LT y z → LT x z) (f : Nat → Int) (lt : Int → Int → Bool) (a s m e b : Nat) (has : a ≤ s) (hsm : s ≤ m) (hme : m ≤ e) (heb : e ≤ b) (hs1 : SortedOn LT f a m) (hs2 : SortedOn LT f m b) (hc : Cross LT lt f a m b)
    (h1 : s = a ∨ e = b ∨ lt (f e) (f (s - 1)) = false) (h2 : s = m ∨ e = m ∨ lt (f (e - 1)) (f s) = true) : Halves LT lt (rot f s m e) a s (s + (e - m)) e b := by
  -- where each index comes from
  have z1 : ∀ k, k < s → rot f s m e k = f k := fun k hk => by unfold rot; rw [if_neg (by omega), if_neg (by omega)]
  have z2 : ∀ k, s ≤ k → k < s + (e - m) → rot f s m e k = f (k - s + m) := fun k h1 h2 => by unfold rot; rw [if_pos ⟨h1, h2⟩]
  have z3 : ∀ k, s + (e - m) ≤ k → k < e → rot f s m e k = f (k - (e - m)) := fun k h1 h2 => by unfold rot; rw [if_neg (by omega), if_pos ⟨h1, h2⟩]
  have z4 : ∀ k, e ≤ k → rot f s m e k = f k := fun k hk => by unfold rot; rw [if_neg (by omega), if_neg (by omega)]
  -- L1 before R2
  have lr : ∀ i j, a ≤ i → i < s → e ≤ j → j < b → LT (f i) (f j) := by
    intro i j hi1 hi2 hj1 hj2
    have base : LT (f (s - 1)) (f e) := (hc (s - 1) e (by omega) (by omega) hme (by omega)).2 (by rcases h1 with h | h | h; omega; omega; exact h)
    have x1 : i = s - 1 ∨ LT (f i) (f (s - 1)) := by
      by_cases e1 : i = s - 1
      · exact .inl e1
      · exact .inr (hs1 i (s - 1) hi1 (by omega) (by omega))
    have x2 : j = e ∨ LT (f e) (f j) := by
      by_cases e1 : j = e
      · exact .inl e1
      · exact .inr (hs2 e j hme (by omega) hj2)
    have y1 : LT (f i) (f e) := by rcases x1 with rfl | x1; exact base; exact tr _ _ _ x1 base
    rcases x2 with rfl | x2
    · exact y1
    · exact tr _ _ _ y1 x2
  -- R1 before L2
  have rl : ∀ i j, m ≤ i → i < e → s ≤ j → j < m → LT (f i) (f j) := by
    intro i j hi1 hi2 hj1 hj2
    have base : LT (f (e - 1)) (f s) := (hc s (e - 1) has (by omega) (by omega) (by omega)).1 (by rcases h2 with h | h | h; omega; omega; exact h)
    have x1 : i = e - 1 ∨ LT (f i) (f (e - 1)) := by
      by_cases e1 : i = e - 1
      · exact .inl e1
      · exact .inr (hs2 i (e - 1) hi1 (by omega) (by omega))
    have x2 : j = s ∨ LT (f s) (f j) := by
      by_cases e1 : j = s
      · exact .inl e1
      · exact .inr (hs1 s j has (by omega) hj2)
    have y1 : LT (f i) (f s) := by rcases x1 with rfl | x1; exact base; exact tr _ _ _ x1 base
    rcases x2 with rfl | x2
    · exact y1
    · exact tr _ _ _ y1 x2
  refine ⟨?_, ?_, ?_, ?_, ?_, ?_, ?_⟩
  · intro i j x y z; rw [z1 i (by omega), z1 j (by omega)]; exact hs1 i j x y (by omega)
  · intro i j x y z; rw [z2 i (by omega) (by omega), z2 j (by omega) (by omega)]; exact hs2 _ _ (by omega) (by omega) (by omega)
  · intro i j x y z; rw [z3 i (by omega) (by omega), z3 j (by omega) (by omega)]; exact hs1 _ _ (by omega) (by omega) (by omega)
  · intro i j x y z; rw [z4 i (by omega), z4 j (by omega)]; exact hs2 _ _ (by omega) (by omega) (by omega)
  · intro i j x y z u; rw [z1 i (by omega), z2 j (by omega) (by omega)]; exact hc _ _ (by omega) (by omega) (by omega) (by omega)
  · intro i j x y z u; rw [z3 i (by omega) (by omega), z4 j (by omega)]; exact hc _ _ (by omega) (by omega) (by omega) (by omega)
  · intro i j x y z u
    by_cases hi : i < s
    · rw [z1 i hi]
      by_cases hj : j < e
      · rw [z3 j z hj]; exact hs1 _ _ (by omega) (by omega) (by omega)
      · rw [z4 j (by omega)]; exact lr _ _ (by omega) (by omega) (by omega) (by omega)
    · rw [z2 i (by omega) y]
      by_cases hj : j < e
      · rw [z3 j z hj]; exact rl _ _ (by omega) (by omega) (by omega) (by omega)
      · rw [z4 j (by omega)]; exact hs2 _ _ (by omega) (by omega) (by omega)

/-- Both halves merged. -/
theorem merge_halves {f g h1 h2 : Nat → Int} {lt : Int → Int → Bool} {a s mid e b : Nat} (ham : a ≤ mid) (hmb : mid ≤ b) (H : Halves LT lt g a s mid e b) (hg : SameOn f g a b) (m1 : Merged LT g h1 a mid) (m2 : Merged LT h1 h2 mid b) : Merged LT f h2 a b := by
  refine Merged.of (hg.trans ((m1.same.widen (Nat.le_refl _) hmb).trans (m2.same.widen ham (Nat.le_refl _)))) ?_
  refine sorted_join ?_ m2.srt ?_
  · intro i j x y z; rw [m2.out i (by omega), m2.out j (by omega)]; exact m1.srt i j x y z
  · intro i j x y z u
    rw [m2.out i (by omega)]
    obtain ⟨i', a1, b1, e1⟩ := m1.from_ i x y
    obtain ⟨j', a2, b2, e2⟩ := m2.from_ j z u
    rw [e1, e2, m1.out j' (by omega)]
    exact H.sep _ _ a1 b1 a2 b2
end
end Go.Proofs.Ybulkcmdi
