import Derived.Test.YbulkcmdiDoorProg
import Derived.WalkKit
import Derived.WalkSpells
import Derived.WalkLawsBesides
import Derived.StillTactics
import Derived.LoopTactic
import Derived.Laws.BitsLemmas
import Derived.Lib.LaidTab
import Derived.Below
namespace Go.Proofs.YbulkcmdiDoor
open Go.RowKit
set_option linter.unusedVariables false
set_option linter.unusedSimpArgs false

theorem p_u (c x : Int) (w : World) (hx : bits .xor .u16 c 32768 = x) (h0 : 0 ≤ x) (h1 : x < 65536) :
    Calls Ybad.prog 7 #[.int .u16 c] w fun e w' => e = .returned (.int .i32 (x / 16)) ∧ w' = w := by
  go_enter Ybad.func7, Ybad.ntmps7
  go_wp2
  go_ret
  exact ⟨rfl, rfl⟩

theorem gRates : Ybad.prog.globalNamed "example.com/bitloom/bitloom/arith.cmRates" = some 0 := by kernel_rfl

/-- What 'updated' answers: P the clamped probability, N the count. -/
structure Upd (x n q lim P N : Int) : Prop where
  hP : (x / 16 + q / 65536 < 32 ∧ P = 32) ∨ (4064 < x / 16 + q / 65536 ∧ P = 4064) ∨ ((32 ≤ x / 16 + q / 65536 ∧ x / 16 + q / 65536 ≤ 4064) ∧ P = x / 16 + q / 65536)
  hN : (n < lim ∧ N = n + 1) ∨ (lim ≤ n ∧ N = n)

set_option maxHeartbeats 800000 in
theorem updated_u (c x r n q P N lim : Int) (b : Int) (w : World) (c0 : 0 ≤ c) (c1 : c < 65536) (hx : bits .xor .u16 c 32768 = x) (h0 : 0 ≤ x) (h1 : x < 65536) (hb : b = 0 ∨ b = 1) (l0 : 0 ≤ lim) (l1 : lim < 65536)
    (hn : bits .and .u16 c 15 = n) (n0 : 0 ≤ n) (n1 : n < 16) (hr : w.cell? ⟨0, n.toNat, none⟩ = some (.int .i32 r)) (hq : (b * 4096 - x / 16) * r = q) (q0 : -178956970 ≤ q) (q1 : q ≤ 178956970) (h : Upd x n q lim P N) :
    Calls Ybad.prog 5 #[.int .u16 c, .int .i32 b, .int .u16 lim] w fun e w' => e = .returned (.int .u16 (bits .xor .u16 (bits .or .u16 (P * 16) N) 32768)) ∧ w' = w := by
  obtain ⟨hP, hN⟩ := h
  rcases hP with ⟨hP, rfl⟩ | ⟨hP, rfl⟩ | ⟨⟨hP, hP'⟩, rfl⟩ <;> rcases hN with ⟨hN, rfl⟩ | ⟨hN, rfl⟩
  all_goals
    go_enter Ybad.func5, Ybad.ntmps5
    go_wp2_with fail
    refine (p_u c x _ hx h0 h1).mono ?_
    rintro e w1 ⟨rfl, rfl⟩
    go_wp2_with fail
    go_ret
    exact ⟨by first | rfl | (congr 3), rfl⟩

set_option maxHeartbeats 800000 in
theorem model_u (c x r n q P N lim : Int) (one : Bool) (t : Int) (ht : t = if one then 4096 else 0) (w : World) (c0 : 0 ≤ c) (c1 : c < 65536) (hx : bits .xor .u16 c 32768 = x) (h0 : 0 ≤ x) (h1 : x < 65536) (l0 : 0 ≤ lim) (l1 : lim < 65536)
    (hn : bits .and .u16 c 15 = n) (n0 : 0 ≤ n) (n1 : n < 16) (hr : 131072 / (2 * n + 3) = r) (r0 : 0 ≤ r) (r1 : r < 65536) (hq : (t - x / 16) * r = q) (q0 : -178956970 ≤ q) (q1 : q ≤ 178956970) (h : Upd x n q lim P N) :
    Calls Ybad.prog 6 #[.int .u16 c, .bool one, .int .u16 lim] w fun e w' => e = .returned (.int .u16 (bits .xor .u16 (bits .or .u16 (P * 16) N) 32768)) ∧ w' = w := by
  obtain ⟨hP, hN⟩ := h
  have hq' : one = false → -(x / 16) * r = q := by rintro rfl; simp at ht; subst ht; rw [← hq]; simp
  cases one <;> simp at ht <;> subst ht <;> rcases hP with ⟨hP, rfl⟩ | ⟨hP, rfl⟩ | ⟨⟨hP, hP'⟩, rfl⟩ <;> rcases hN with ⟨hN, rfl⟩ | ⟨hN, rfl⟩
  all_goals
    first | (replace hq' := hq' rfl) | (clear hq')
    go_enter Ybad.func6, Ybad.ntmps6
    go_wp2_with fail
    go_ret
    exact ⟨by first | rfl | (congr 3), rfl⟩
end Go.Proofs.YbulkcmdiDoor
