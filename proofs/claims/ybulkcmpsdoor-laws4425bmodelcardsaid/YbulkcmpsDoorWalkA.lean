import Derived.Test.YbulkcmpsDoorProg
import Derived.WalkKit
import Derived.WalkSpells
import Derived.WalkLawsBesides
import Derived.StillTactics
import Derived.LoopTactic
import Derived.Below
namespace Go.Proofs.YbulkcmpsDoor
open Go.RowKit
set_option linter.unusedVariables false
set_option linter.unusedSimpArgs false

/-- The step's name: what both the program's method and the law's own table answer. -/
def StepIs (s : Int) (x : ByteArray) : Prop :=
  (s = 1 ∧ x = ⟨#[109, 115, 103]⟩) ∨ (s = 2 ∧ x = ⟨#[101, 99, 104, 111]⟩) ∨ (s = 3 ∧ x = ⟨#[114, 101, 97, 100, 121]⟩) ∨ ((s ≠ 1 ∧ s ≠ 2 ∧ s ≠ 3) ∧ x = ⟨#[117, 110, 107, 110, 111, 119, 110]⟩)

theorem step_u (s : Int) (x : ByteArray) (w : World) (h : StepIs s x) :
    Calls Ybad.prog 9 #[.int .u8 s] w fun e w' => e = .returned (.string x) ∧ w' = w := by
  rcases h with ⟨rfl, rfl⟩ | ⟨rfl, rfl⟩ | ⟨rfl, rfl⟩ | ⟨⟨h1, h2, h3⟩, rfl⟩
  all_goals
    go_enter Ybad.func9, Ybad.ntmps9
    go_wp2
    go_ret
    exact ⟨rfl, rfl⟩
theorem string_u (s : Int) (x : ByteArray) (w : World) (h : StepIs s x) :
    Calls Ybad.prog 7 #[.int .u8 s] w fun e w' => e = .returned (.string x) ∧ w' = w := by
  rcases h with ⟨rfl, rfl⟩ | ⟨rfl, rfl⟩ | ⟨rfl, rfl⟩ | ⟨⟨h1, h2, h3⟩, rfl⟩
  all_goals
    go_enter Ybad.func7, Ybad.ntmps7
    go_wp2
    go_ret
    exact ⟨rfl, rfl⟩

/-- The table of names, as the row lists it. -/
def names : List ByteArray := [⟨#[]⟩, ⟨#[114, 111, 119]⟩, ⟨#[112, 111, 105, 110, 116]⟩, ⟨#[114, 101, 112, 111, 114, 116]⟩, ⟨#[99, 97, 110, 100, 105, 100, 97, 116, 101]⟩, ⟨#[114, 101, 99, 45, 114, 111, 119]⟩, ⟨#[114, 101, 99, 45, 99, 111, 109, 112, 108, 101, 116, 101]⟩]
def TableAt (w : World) : Prop := ∀ i : Nat, i < 7 → w.cell? ⟨0, i, none⟩ = some (.string (names.getD i ⟨#[]⟩))

theorem kind_u (k : Nat) (w : World) (hk : k ≤ 255) (hT : TableAt w) (y : ByteArray) (hy : y = if 1 ≤ k ∧ k ≤ 6 then names.getD k ⟨#[]⟩ else ⟨#[117, 110, 107, 110, 111, 119, 110]⟩) :
    Calls Ybad.prog 10 #[.int .u8 (k : Int)] w fun e w' => e = .returned (.string y) ∧ w' = w := by
  rcases (by omega : k = 0 ∨ k = 1 ∨ k = 2 ∨ k = 3 ∨ k = 4 ∨ k = 5 ∨ k = 6 ∨ 7 ≤ k) with rfl | rfl | rfl | rfl | rfl | rfl | rfl | h7
  all_goals first
    | (have c := hT 0 (by omega); have d := hT 1 (by omega); have e := hT 2 (by omega); have f := hT 3 (by omega); have g := hT 4 (by omega); have h := hT 5 (by omega); have i := hT 6 (by omega)
       simp [names] at c d e f g h i
       simp [names] at hy
       clear hT
       subst hy
       go_enter Ybad.func10, Ybad.ntmps10
       go_wp2
       go_ret
       exact ⟨rfl, rfl⟩)
    | (rw [if_neg (by omega)] at hy
       subst hy
       go_enter Ybad.func10, Ybad.ntmps10
       go_wp2
       go_ret
       exact ⟨rfl, rfl⟩)

theorem acast_u (k : Nat) (w : World) (hk : k ≤ 255) (b : Bool) (hb : b = decide (k = 3 ∨ k = 4)) :
    Calls Ybad.prog 11 #[.int .u8 (k : Int)] w fun e w' => e = .returned (.bool b) ∧ w' = w := by
  rcases (by omega : k = 3 ∨ k = 4 ∨ (k ≠ 3 ∧ k ≠ 4)) with rfl | rfl | ⟨h3, h4⟩
  · simp at hb; subst hb
    go_enter Ybad.func11, Ybad.ntmps11
    go_wp2
    go_ret
    exact ⟨rfl, rfl⟩
  · simp at hb; subst hb
    go_enter Ybad.func11, Ybad.ntmps11
    go_wp2
    go_ret
    exact ⟨rfl, rfl⟩
  · simp [h3, h4] at hb; subst hb
    have g3 : ((k : Int) == 3) = false := by simp; omega
    have g4 : ((k : Int) == 4) = false := by simp; omega
    go_enter Ybad.func11, Ybad.ntmps11
    go_wp2
    go_ret
    exact ⟨rfl, rfl⟩

/-- The sharing's name. -/
def VssIs (k : Nat) (x y : ByteArray) : Prop :=
  (k = 1 ∧ y = ⟨#[114, 111, 119]⟩) ∨ (k = 2 ∧ y = ⟨#[112, 111, 105, 110, 116]⟩) ∨ (k = 5 ∧ y = ⟨#[114, 101, 99, 45, 114, 111, 119]⟩) ∨ (k = 6 ∧ y = ⟨#[114, 101, 99, 45, 99, 111, 109, 112, 108, 101, 116, 101]⟩) ∨ ((k = 0 ∨ 7 ≤ k) ∧ y = ⟨#[117, 110, 107, 110, 111, 119, 110]⟩) ∨ (k = 3 ∧ y = (⟨#[114, 101, 112, 111, 114, 116, 45]⟩ : ByteArray) ++ x) ∨ (k = 4 ∧ y = (⟨#[99, 97, 110, 100, 105, 100, 97, 116, 101, 45]⟩ : ByteArray) ++ x)

theorem vmodel_u (k : Nat) (s : Int) (x y : ByteArray) (w : World) (hs : StepIs s x) (hy : VssIs k x y) (hk : k ≤ 255) :
    Calls Ybad.prog 8 #[.int .u8 (k : Int), .int .u8 s] w fun e w' => e = .returned (.string y) ∧ w' = w := by
  rcases hy with ⟨rfl, rfl⟩ | ⟨rfl, rfl⟩ | ⟨rfl, rfl⟩ | ⟨rfl, rfl⟩ | ⟨h, rfl⟩ | ⟨rfl, rfl⟩ | ⟨rfl, rfl⟩
  iterate 4
    · go_enter Ybad.func8, Ybad.ntmps8
      go_wp2
      go_ret
      exact ⟨rfl, rfl⟩
  · have g1 : ((k : Int) == 1) = false := by simp; omega
    have g2 : ((k : Int) == 2) = false := by simp; omega
    have g3 : ((k : Int) == 3) = false := by simp; omega
    have g4 : ((k : Int) == 4) = false := by simp; omega
    have g5 : ((k : Int) == 5) = false := by simp; omega
    have g6 : ((k : Int) == 6) = false := by simp; omega
    go_enter Ybad.func8, Ybad.ntmps8
    go_wp2
    go_ret
    exact ⟨rfl, rfl⟩
  all_goals
    have key := step_u s x w hs
    rcases hs with ⟨rfl, rfl⟩ | ⟨rfl, rfl⟩ | ⟨rfl, rfl⟩ | ⟨⟨h1, h2, h3⟩, rfl⟩
    all_goals
      go_enter Ybad.func8, Ybad.ntmps8
      go_wp2_with fail
      refine key.mono ?_
      rintro e w1 ⟨rfl, rfl⟩
      go_wp2_with fail
      go_ret
      exact ⟨rfl, rfl⟩
end Go.Proofs.YbulkcmpsDoor
