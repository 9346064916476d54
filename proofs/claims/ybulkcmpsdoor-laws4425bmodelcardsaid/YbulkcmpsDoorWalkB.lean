import Derived.Test.YbulkcmpsDoorWalkA
namespace Go.Proofs.YbulkcmpsDoor
open Go.RowKit
set_option linter.unusedVariables false
set_option linter.unusedSimpArgs false

theorem TableAt.below {w w' : World} (h : TableAt w) (hb : Below w.heap.size w w') : TableAt w' := fun i hi => (hb.cell (World.block_lt_of_cell? _ _ (h i hi))).trans (h i hi)
theorem TableAt.alloc {w : World} (h : TableAt w) (o : Obj) : TableAt (w.alloc o) := h.below ((Below.refl _ _).alloc (Nat.le_refl _) o)

theorem vname_u (k : Nat) (s so p : Int) (x y : ByteArray) (w : World) (hs : StepIs s x) (hy : VssIs k x y) (hk : k ≤ 255) (hT : TableAt w) :
    Calls Ybad.prog 6 #[.agg #[.int .u8 (k : Int), .int .u8 s, .int .i64 so, .int .i64 0, .int .i64 0, .int .u64 p, .int .u64 0, .string ⟨#[]⟩, .string ⟨#[]⟩]] w fun e w' => e = .returned (.string y) ∧ Below w.heap.size w w' := by
  have HT : Hid (TableAt w) := hT
  clear hT
  have key10 := fun (w : World) (hT : TableAt w) => kind_u k w hk hT
  have key11 := fun (w : World) => acast_u k w hk
  have key7 := fun (w : World) => string_u s x w hs
  rcases hy with ⟨rfl, rfl⟩ | ⟨rfl, rfl⟩ | ⟨rfl, rfl⟩ | ⟨rfl, rfl⟩ | ⟨h, rfl⟩ | ⟨rfl, rfl⟩ | ⟨rfl, rfl⟩
  · go_enter Ybad.func6, Ybad.ntmps6
    go_wp2_with fail
    refine (key10 _ (HT.out.alloc _) ⟨#[114, 111, 119]⟩ (by rfl)).mono ?_
    rintro e w1 ⟨rfl, rfl⟩
    go_wp2_with fail
    refine (key11 _ false (by rfl)).mono ?_
    rintro e w1 ⟨rfl, rfl⟩
    go_wp2_with fail
    go_ret
    exact ⟨rfl, (Below.refl _ _).alloc (Nat.le_refl _) _⟩
  · go_enter Ybad.func6, Ybad.ntmps6
    go_wp2_with fail
    refine (key10 _ (HT.out.alloc _) ⟨#[112, 111, 105, 110, 116]⟩ (by rfl)).mono ?_
    rintro e w1 ⟨rfl, rfl⟩
    go_wp2_with fail
    refine (key11 _ false (by rfl)).mono ?_
    rintro e w1 ⟨rfl, rfl⟩
    go_wp2_with fail
    go_ret
    exact ⟨rfl, (Below.refl _ _).alloc (Nat.le_refl _) _⟩
  · go_enter Ybad.func6, Ybad.ntmps6
    go_wp2_with fail
    refine (key10 _ (HT.out.alloc _) ⟨#[114, 101, 99, 45, 114, 111, 119]⟩ (by rfl)).mono ?_
    rintro e w1 ⟨rfl, rfl⟩
    go_wp2_with fail
    refine (key11 _ false (by rfl)).mono ?_
    rintro e w1 ⟨rfl, rfl⟩
    go_wp2_with fail
    go_ret
    exact ⟨rfl, (Below.refl _ _).alloc (Nat.le_refl _) _⟩
  · go_enter Ybad.func6, Ybad.ntmps6
    go_wp2_with fail
    refine (key10 _ (HT.out.alloc _) ⟨#[114, 101, 99, 45, 99, 111, 109, 112, 108, 101, 116, 101]⟩ (by rfl)).mono ?_
    rintro e w1 ⟨rfl, rfl⟩
    go_wp2_with fail
    refine (key11 _ false (by rfl)).mono ?_
    rintro e w1 ⟨rfl, rfl⟩
    go_wp2_with fail
    go_ret
    exact ⟨rfl, (Below.refl _ _).alloc (Nat.le_refl _) _⟩
  · go_enter Ybad.func6, Ybad.ntmps6
    go_wp2_with fail
    refine (key10 _ (HT.out.alloc _) ⟨#[117, 110, 107, 110, 111, 119, 110]⟩ (by rw [if_neg (by omega)])).mono ?_
    rintro e w1 ⟨rfl, rfl⟩
    go_wp2_with fail
    refine (key11 _ false (by simp; omega)).mono ?_
    rintro e w1 ⟨rfl, rfl⟩
    go_wp2_with fail
    go_ret
    exact ⟨rfl, (Below.refl _ _).alloc (Nat.le_refl _) _⟩
  · rcases hs with ⟨rfl, rfl⟩ | ⟨rfl, rfl⟩ | ⟨rfl, rfl⟩ | ⟨⟨h1, h2, h3⟩, rfl⟩
    all_goals
      go_enter Ybad.func6, Ybad.ntmps6
      go_wp2_with fail
      refine (key10 _ (HT.out.alloc _) ⟨#[114, 101, 112, 111, 114, 116]⟩ (by rfl)).mono ?_
      rintro e w1 ⟨rfl, rfl⟩
      go_wp2_with fail
      refine (key11 _ true (by rfl)).mono ?_
      rintro e w1 ⟨rfl, rfl⟩
      go_wp2_with fail
      refine (key7 _).mono ?_
      rintro e w1 ⟨rfl, rfl⟩
      go_wp2_with fail
      go_ret
      exact ⟨by first | rfl | kernel_rfl, (Below.refl _ _).alloc (Nat.le_refl _) _⟩
  · rcases hs with ⟨rfl, rfl⟩ | ⟨rfl, rfl⟩ | ⟨rfl, rfl⟩ | ⟨⟨h1, h2, h3⟩, rfl⟩
    all_goals
      go_enter Ybad.func6, Ybad.ntmps6
      go_wp2_with fail
      refine (key10 _ (HT.out.alloc _) ⟨#[99, 97, 110, 100, 105, 100, 97, 116, 101]⟩ (by rfl)).mono ?_
      rintro e w1 ⟨rfl, rfl⟩
      go_wp2_with fail
      refine (key11 _ true (by rfl)).mono ?_
      rintro e w1 ⟨rfl, rfl⟩
      go_wp2_with fail
      refine (key7 _).mono ?_
      rintro e w1 ⟨rfl, rfl⟩
      go_wp2_with fail
      go_ret
      exact ⟨by first | rfl | kernel_rfl, (Below.refl _ _).alloc (Nat.le_refl _) _⟩

/-- The message's name: v the sharing's, x the step's. -/
def NameIs (k : Nat) (v x y : ByteArray) : Prop :=
  (k = 1 ∧ y = v) ∨ ((k = 0 ∨ 4 ≤ k) ∧ y = ⟨#[117, 110, 107, 110, 111, 119, 110]⟩) ∨ (k = 2 ∧ y = (⟨#[97, 116, 116, 97, 99, 104, 45]⟩ : ByteArray) ++ x) ∨ (k = 3 ∧ y = (⟨#[97, 99, 99, 101, 112, 116, 45]⟩ : ByteArray) ++ x)

theorem model_u (k sk : Nat) (ss s : Int) (xs x v y : ByteArray) (w : World) (hss : StepIs ss xs) (hs : StepIs s x) (hv : VssIs sk xs v) (hy : NameIs k v x y) (hk : k ≤ 255) (hsk : sk ≤ 255) :
    Calls Ybad.prog 5 #[.int .u8 (k : Int), .int .u8 (sk : Int), .int .u8 ss, .int .u8 s] w fun e w' => e = .returned (.string y) ∧ w' = w := by
  have key8 := vmodel_u sk ss xs v w hss hv hsk
  have key9 := step_u s x w hs
  rcases hy with ⟨rfl, rfl⟩ | ⟨h, rfl⟩ | ⟨rfl, rfl⟩ | ⟨rfl, rfl⟩
  · go_enter Ybad.func5, Ybad.ntmps5
    go_wp2_with fail
    refine key8.mono ?_
    rintro e w1 ⟨rfl, rfl⟩
    go_wp2_with fail
    go_ret
    exact ⟨rfl, rfl⟩
  · have g1 : ((k : Int) == 1) = false := by simp; omega
    have g2 : ((k : Int) == 2) = false := by simp; omega
    have g3 : ((k : Int) == 3) = false := by simp; omega
    go_enter Ybad.func5, Ybad.ntmps5
    go_wp2
    go_ret
    exact ⟨rfl, rfl⟩
  all_goals
    rcases hs with ⟨rfl, rfl⟩ | ⟨rfl, rfl⟩ | ⟨rfl, rfl⟩ | ⟨⟨h1, h2, h3⟩, rfl⟩
    all_goals
      go_enter Ybad.func5, Ybad.ntmps5
      go_wp2_with fail
      refine key9.mono ?_
      rintro e w1 ⟨rfl, rfl⟩
      go_wp2_with fail
      go_ret
      exact ⟨rfl, rfl⟩

theorem name_u (k sk : Nat) (ss s so o p : Int) (xs x v y : ByteArray) (w : World) (hss : StepIs ss xs) (hs : StepIs s x) (hv : VssIs sk xs v) (hy : NameIs k v x y) (hk : k ≤ 255) (hsk : sk ≤ 255) (hT : TableAt w) :
    Calls Ybad.prog 4 #[.agg #[.int .u8 (k : Int), .int .u8 (sk : Int), .int .u8 ss, .int .i64 so, .int .i64 0, .int .i64 0, .int .u64 p, .int .u64 0, .string ⟨#[]⟩, .string ⟨#[]⟩, .int .u8 s, .int .i64 o, .int .u64 p]] w fun e w' => e = .returned (.string y) ∧ Below w.heap.size w w' := by
  have HT : Hid (TableAt w) := hT
  clear hT
  have key6 := fun (w : World) (hT : TableAt w) => vname_u sk ss so p xs v w hss hv hsk hT
  have key7 := fun (w : World) => string_u s x w hs
  rcases hy with ⟨rfl, rfl⟩ | ⟨h, rfl⟩ | ⟨rfl, rfl⟩ | ⟨rfl, rfl⟩
  · go_enter Ybad.func4, Ybad.ntmps4
    go_wp2_with fail
    refine (key6 _ (HT.out.alloc _)).mono ?_
    rintro e w1 ⟨rfl, hb⟩
    go_wp2_with fail
    go_ret
    exact ⟨rfl, ((Below.refl _ _).alloc (Nat.le_refl _) _).trans (hb.mono (by simp))⟩
  · have g1 : ((k : Int) == 1) = false := by simp; omega
    have g2 : ((k : Int) == 2) = false := by simp; omega
    have g3 : ((k : Int) == 3) = false := by simp; omega
    go_enter Ybad.func4, Ybad.ntmps4
    go_wp2
    go_ret
    exact ⟨rfl, (Below.refl _ _).alloc (Nat.le_refl _) _⟩
  all_goals
    rcases hs with ⟨rfl, rfl⟩ | ⟨rfl, rfl⟩ | ⟨rfl, rfl⟩ | ⟨⟨h1, h2, h3⟩, rfl⟩
    all_goals
      go_enter Ybad.func4, Ybad.ntmps4
      go_wp2_with fail
      refine (key7 _).mono ?_
      rintro e w1 ⟨rfl, rfl⟩
      go_wp2_with fail
      go_ret
      exact ⟨rfl, (Below.refl _ _).alloc (Nat.le_refl _) _⟩

theorem step_ex (s : Int) : ∃ x, StepIs s x := by
  by_cases h1 : s = 1
  · exact ⟨_, .inl ⟨h1, rfl⟩⟩
  by_cases h2 : s = 2
  · exact ⟨_, .inr (.inl ⟨h2, rfl⟩)⟩
  by_cases h3 : s = 3
  · exact ⟨_, .inr (.inr (.inl ⟨h3, rfl⟩))⟩
  exact ⟨_, .inr (.inr (.inr ⟨⟨h1, h2, h3⟩, rfl⟩))⟩
theorem vss_ex (k : Nat) (x : ByteArray) : ∃ y, VssIs k x y := by
  rcases (by omega : k = 1 ∨ k = 2 ∨ k = 5 ∨ k = 6 ∨ (k = 0 ∨ 7 ≤ k) ∨ k = 3 ∨ k = 4) with h | h | h | h | h | h | h
  · exact ⟨_, .inl ⟨h, rfl⟩⟩
  · exact ⟨_, .inr (.inl ⟨h, rfl⟩)⟩
  · exact ⟨_, .inr (.inr (.inl ⟨h, rfl⟩))⟩
  · exact ⟨_, .inr (.inr (.inr (.inl ⟨h, rfl⟩)))⟩
  · exact ⟨_, .inr (.inr (.inr (.inr (.inl ⟨h, rfl⟩))))⟩
  · exact ⟨_, .inr (.inr (.inr (.inr (.inr (.inl ⟨h, rfl⟩)))))⟩
  · exact ⟨_, .inr (.inr (.inr (.inr (.inr (.inr ⟨h, rfl⟩)))))⟩
theorem name_ex (k : Nat) (v x : ByteArray) : ∃ y, NameIs k v x y := by
  rcases (by omega : k = 1 ∨ (k = 0 ∨ 4 ≤ k) ∨ k = 2 ∨ k = 3) with h | h | h | h
  · exact ⟨_, .inl ⟨h, rfl⟩⟩
  · exact ⟨_, .inr (.inl ⟨h, rfl⟩)⟩
  · exact ⟨_, .inr (.inr (.inl ⟨h, rfl⟩))⟩
  · exact ⟨_, .inr (.inr (.inr ⟨h, rfl⟩))⟩

theorem law_u (k sk : Nat) (ss s o so p : Int) (w : World) (hk : k ≤ 255) (hsk : sk ≤ 255) (hT : TableAt w) :
    Calls Ybad.prog 3 #[.int .u8 (k : Int), .int .u8 (sk : Int), .int .u8 ss, .int .u8 s, .int .i64 o, .int .i64 so, .int .u64 p] w fun e w' => e = .returned (.bool true) ∧ Below w.heap.size w w' := by
  have HT : Hid (TableAt w) := hT
  clear hT
  obtain ⟨x, hs⟩ := step_ex s
  obtain ⟨xs, hss⟩ := step_ex ss
  obtain ⟨v, hv⟩ := vss_ex sk xs
  obtain ⟨y, hy⟩ := name_ex k v x
  have key4 := fun (w : World) (hT : TableAt w) => name_u k sk ss s so o p xs x v y w hss hs hv hy hk hsk hT
  have key5 := fun (w : World) => model_u k sk ss s xs x v y w hss hs hv hy hk hsk
  clear hs hss hv hy
  go_enter Ybad.func3, Ybad.ntmps3
  go_wp2_with fail
  refine (key4 _ (HT.out.alloc _)).mono ?_
  rintro e w1 ⟨rfl, hb⟩
  go_wp2_with fail
  refine (key5 _).mono ?_
  rintro e w2 ⟨rfl, rfl⟩
  go_wp2_with fail
  go_ret
  exact ⟨by first | rfl | simp, ((Below.refl _ _).alloc (Nat.le_refl _) _).trans (hb.mono (by simp))⟩
end Go.Proofs.YbulkcmpsDoor
