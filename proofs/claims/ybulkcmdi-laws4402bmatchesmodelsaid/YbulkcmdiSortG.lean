import Derived.Test.YbulkcmdiSortF
namespace Go.Proofs.Ybulkcmdi
open Go.RowKit
set_option linter.unusedVariables false
set_option linter.unusedSimpArgs false

/-- 'less' and the values' own order give LT. -/
def Agree (LT : Int → Int → Prop) (lt : Int → Int → Bool) : Prop := ∀ x y, x < y → (lt y x = true → LT y x) ∧ (lt y x = false → LT x y)

section
variable (LT : Int → Int → Prop)
structure Inv1 (f g : Nat → Int) (a n : Nat) : Prop where
  s : ∀ i j, i < j → j < a → i / 20 = j / 20 → LT (g i) (g j)
  o : ∀ i j, j < n → i / 20 < j / 20 → g i < g j
  k : ∀ k, a ≤ k → g k = f k
structure Inv2 (g : Nat → Int) (bs a n : Nat) : Prop where
  s1 : ∀ i j, i < j → j < a → i / (2 * bs) = j / (2 * bs) → LT (g i) (g j)
  s2 : ∀ i j, a ≤ i → i < j → j < n → i / bs = j / bs → LT (g i) (g j)
  o1 : ∀ i j, j < n → i / (2 * bs) < j / (2 * bs) → g i < g j
  o2 : ∀ i j, a ≤ i → j < n → i / bs < j / bs → g i < g j
/-- Sorted within blocks, the blocks in order. -/
structure Blk (g : Nat → Int) (bs n : Nat) : Prop where
  s : ∀ i j, i < j → j < n → i / bs = j / bs → LT (g i) (g j)
  o : ∀ i j, j < n → i / bs < j / bs → g i < g j
end
def Mult (bs a : Nat) : Prop := (bs = 20 ∧ a % 40 = 0) ∨ (bs = 40 ∧ a % 80 = 0) ∨ (bs = 80 ∧ a % 160 = 0) ∨ (bs = 160 ∧ a % 320 = 0)

section
variable {LT : Int → Int → Prop}
theorem Inv1.start {f : Nat → Int} {n : Nat} (hasc : ∀ i j, i < j → j < n → f i < f j) : Inv1 LT f f 0 n := ⟨fun i j x y z => by omega, fun i j x y => hasc i j (by omega) x, fun _ _ => rfl⟩
theorem Inv1.crossAll {f g : Nat → Int} {a b n : Nat} {lt : Int → Int → Bool} (ag : Agree LT lt) (hasc : ∀ i j, i < j → j < n → f i < f j) (h : Inv1 LT f g a n) (hb : b ≤ n) : CrossAll LT lt g a b := fun i j x y z => by
  rw [h.k i x, h.k j (by omega)]; exact ag _ _ (hasc i j y (by omega))
theorem Inv1.next {f g h : Nat → Int} {a b n : Nat} (ha : a % 20 = 0) (hab : a ≤ b) (hb : b ≤ a + 20) (hbn : b ≤ n) (hlast : b = a + 20 ∨ b = n) (I : Inv1 LT f g a n) (m : Merged LT g h a b) : Inv1 LT f h b n := by
  refine ⟨fun i j x y z => ?_, fun i j x y => ?_, fun k hk => ?_⟩
  · by_cases hi : a ≤ i
    · exact m.srt i j hi x y
    · rw [m.out i (by omega), m.out j (by omega)]; exact I.s i j x (by omega) z
  · have hi : ∃ i', i' / 20 = i / 20 ∧ h i = g i' := by
      by_cases q : a ≤ i ∧ i < b
      · obtain ⟨k, a1, b1, e1⟩ := m.from_ i q.1 q.2; exact ⟨k, by omega, e1⟩
      · exact ⟨i, rfl, m.out i q⟩
    have hj : ∃ j', j' / 20 = j / 20 ∧ j' < n ∧ h j = g j' := by
      by_cases q : a ≤ j ∧ j < b
      · obtain ⟨k, a1, b1, e1⟩ := m.from_ j q.1 q.2; exact ⟨k, by omega, by omega, e1⟩
      · exact ⟨j, rfl, x, m.out j q⟩
    obtain ⟨i', e1, e2⟩ := hi
    obtain ⟨j', e3, e4, e5⟩ := hj
    rw [e2, e5]; exact I.o i' j' e4 (by omega)
  · rw [m.out k (by omega)]; exact I.k k (by omega)
theorem Inv1.blk {f g : Nat → Int} {n : Nat} (I : Inv1 LT f g n n) : Blk LT g 20 n := ⟨I.s, I.o⟩

theorem Inv2.start {g : Nat → Int} {bs n : Nat} (hm : Mult bs 0) (B : Blk LT g bs n) : Inv2 LT g bs 0 n :=
  ⟨fun i j x y z => by omega, fun i j _ x y z => B.s i j x y z, fun i j x y => B.o i j x (by rcases hm with ⟨rfl, _⟩ | ⟨rfl, _⟩ | ⟨rfl, _⟩ | ⟨rfl, _⟩ <;> omega), fun i j _ x y => B.o i j x y⟩
theorem Inv2.sorted_l {g : Nat → Int} {bs a n : Nat} (hm : Mult bs a) (I : Inv2 LT g bs a n) (hn : a + bs ≤ n) : SortedOn LT g a (a + bs) := fun i j x y z =>
  I.s2 i j x y (by omega) (by rcases hm with ⟨rfl, _⟩ | ⟨rfl, _⟩ | ⟨rfl, _⟩ | ⟨rfl, _⟩ <;> omega)
theorem Inv2.sorted_r {g : Nat → Int} {bs a b n : Nat} (hm : Mult bs a) (I : Inv2 LT g bs a n) (hb : b ≤ a + 2 * bs) (hn : b ≤ n) : SortedOn LT g (a + bs) b := fun i j x y z =>
  I.s2 i j (by omega) y (by omega) (by rcases hm with ⟨rfl, _⟩ | ⟨rfl, _⟩ | ⟨rfl, _⟩ | ⟨rfl, _⟩ <;> omega)
theorem Inv2.cross {g : Nat → Int} {bs a b n : Nat} {lt : Int → Int → Bool} (ag : Agree LT lt) (hm : Mult bs a) (I : Inv2 LT g bs a n) (hb : b ≤ a + 2 * bs) (hn : b ≤ n) : Cross LT lt g a (a + bs) b := fun i j x y z u =>
  ag _ _ (I.o2 i j x (by omega) (by rcases hm with ⟨rfl, _⟩ | ⟨rfl, _⟩ | ⟨rfl, _⟩ | ⟨rfl, _⟩ <;> omega))
theorem Inv2.next {g h : Nat → Int} {bs a b n : Nat} (hm : Mult bs a) (I : Inv2 LT g bs a n) (hab : a ≤ b) (hb : b ≤ a + 2 * bs) (hn : b ≤ n) (hlast : b = a + 2 * bs ∨ b = n) (m : Merged LT g h a b) : Inv2 LT h bs b n := by
  have hs : ∀ i, ∃ i', i' / (2 * bs) = i / (2 * bs) ∧ (i < n → i' < n) ∧ h i = g i' := fun i => by
    by_cases q : a ≤ i ∧ i < b
    · obtain ⟨k, a1, b1, e1⟩ := m.from_ i q.1 q.2
      exact ⟨k, by rcases hm with ⟨rfl, _⟩ | ⟨rfl, _⟩ | ⟨rfl, _⟩ | ⟨rfl, _⟩ <;> omega, by omega, e1⟩
    · exact ⟨i, rfl, fun h => h, m.out i q⟩
  refine ⟨fun i j x y z => ?_, fun i j x y z u => ?_, fun i j x y => ?_, fun i j x y z => ?_⟩
  · by_cases hi : a ≤ i
    · exact m.srt i j hi x y
    · rw [m.out i (by omega), m.out j (by rcases hm with ⟨rfl, _⟩ | ⟨rfl, _⟩ | ⟨rfl, _⟩ | ⟨rfl, _⟩ <;> omega)]
      exact I.s1 i j x (by rcases hm with ⟨rfl, _⟩ | ⟨rfl, _⟩ | ⟨rfl, _⟩ | ⟨rfl, _⟩ <;> omega) z
  · rw [m.out i (by omega), m.out j (by omega)]; exact I.s2 i j (by omega) y z u
  · obtain ⟨i', e1, _, e2⟩ := hs i
    obtain ⟨j', e3, e4, e5⟩ := hs j
    rw [e2, e5]; exact I.o1 i' j' (e4 x) (by omega)
  · have hij : i < j := by rcases hm with ⟨rfl, _⟩ | ⟨rfl, _⟩ | ⟨rfl, _⟩ | ⟨rfl, _⟩ <;> omega
    rw [m.out i (by omega), m.out j (by omega)]; exact I.o2 i j (by omega) y z
theorem Inv2.blk {g : Nat → Int} {bs a n : Nat} (hm : Mult bs a) (I : Inv2 LT g bs a n) (hn : n ≤ a + bs) : Blk LT g (2 * bs) n := by
  refine ⟨fun i j x y z => ?_, I.o1⟩
  by_cases hi : a ≤ i
  · exact I.s2 i j hi x y (by rcases hm with ⟨rfl, _⟩ | ⟨rfl, _⟩ | ⟨rfl, _⟩ | ⟨rfl, _⟩ <;> omega)
  · exact I.s1 i j x (by rcases hm with ⟨rfl, _⟩ | ⟨rfl, _⟩ | ⟨rfl, _⟩ | ⟨rfl, _⟩ <;> omega) z
theorem Blk.sorted {g : Nat → Int} {bs n : Nat} (B : Blk LT g bs n) (h : n ≤ bs) (hb : 0 < bs) : SortedOn LT g 0 n := fun i j _ y z =>
  B.s i j y z (by rw [Nat.div_eq_of_lt (by omega), Nat.div_eq_of_lt (by omega)])
theorem Mult.next {bs a : Nat} (h : Mult bs a) : Mult bs (a + 2 * bs) := by
  rcases h with ⟨rfl, h⟩ | ⟨rfl, h⟩ | ⟨rfl, h⟩ | ⟨rfl, h⟩
  · exact .inl ⟨rfl, by omega⟩
  · exact .inr (.inl ⟨rfl, by omega⟩)
  · exact .inr (.inr (.inl ⟨rfl, by omega⟩))
  · exact .inr (.inr (.inr ⟨rfl, by omega⟩))
end
end Go.Proofs.Ybulkcmdi
