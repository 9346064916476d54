import Derived.Test.YbulkcmcuWalkC
namespace Go.Proofs.Ybulkcmcu
open Go.RowKit
set_option linter.unusedVariables false
set_option linter.unusedSimpArgs false

theorem ret_int {k : IntKind} {a b : Int} (h : a = b) : Ending.returned (.int k a) = .returned (.int k b) := by rw [h]
theorem be_or (b : Nat → Int) (k0 : 0 ≤ b 0 ∧ b 0 < 256) (k1 : 0 ≤ b 1 ∧ b 1 < 256) (k2 : 0 ≤ b 2 ∧ b 2 < 256) (k3 : 0 ≤ b 3 ∧ b 3 < 256) (k4 : 0 ≤ b 4 ∧ b 4 < 256) (k5 : 0 ≤ b 5 ∧ b 5 < 256) (k6 : 0 ≤ b 6 ∧ b 6 < 256) (k7 : 0 ≤ b 7 ∧ b 7 < 256) :
    bits BinOp.or IntKind.u64 (bits BinOp.or IntKind.u64 (bits BinOp.or IntKind.u64 (bits BinOp.or IntKind.u64 (bits BinOp.or IntKind.u64 (bits BinOp.or IntKind.u64 (bits BinOp.or IntKind.u64 (b 7) (b 6 * 256)) (b 5 * 65536))
      (b 4 * 16777216)) (b 3 * 4294967296)) (b 2 * 1099511627776)) (b 1 * 281474976710656)) (b 0 * 72057594037927936) = be8 b := by
  simp (disch := omega) only [u64_or8, u64_or16, u64_or24, u64_or32, u64_or40, u64_or48, u64_or56]
  simp only [be8]; omega

set_option maxHeartbeats 1600000 in
theorem uint64_any (N : Nat) (b : Nat → Int) (hb : ∀ j, 0 ≤ b j ∧ b j < 256) (w : World) (h : ∀ j, j < 8 → w.cell? ⟨N, j, none⟩ = some (.int .u8 (b j))) :
    Calls Yba.prog 11 #[.agg #[], .slice (some ⟨N, 0, none⟩) 8 8] w fun e w' => e = .returned (.int .u64 (be8 b)) ∧ Below w.heap.size w w' := by
  have g0 := h 0 (by decide)
  have g1 := h 1 (by decide)
  have g2 := h 2 (by decide)
  have g3 := h 3 (by decide)
  have g4 := h 4 (by decide)
  have g5 := h 5 (by decide)
  have g6 := h 6 (by decide)
  have g7 := h 7 (by decide)
  have k0 := hb 0
  have k1 := hb 1
  have k2 := hb 2
  have k3 := hb 3
  have k4 := hb 4
  have k5 := hb 5
  have k6 := hb 6
  have k7 := hb 7
  clear h hb
  have q : ∀ (o : Obj) (j : Nat) (v : Value), w.cell? ⟨N, j, none⟩ = some v → (w.alloc o).cell? ⟨N, j, none⟩ = some v := fun o j v hv => by
    rw [(((Below.refl w.heap.size w).alloc (Nat.le_refl _) o)).cell (p := ⟨N, j, none⟩) (World.block_lt_of_cell? _ _ hv)]; exact hv
  have q0 := fun o => q o _ _ g0
  have q1 := fun o => q o _ _ g1
  have q2 := fun o => q o _ _ g2
  have q3 := fun o => q o _ _ g3
  have q4 := fun o => q o _ _ g4
  have q5 := fun o => q o _ _ g5
  have q6 := fun o => q o _ _ g6
  have q7 := fun o => q o _ _ g7
  clear q
  go_enter Yba.func11, Yba.ntmps11
  go_wp2
  go_quiet (fail)
  go_wp2
  go_ret
  exact ⟨ret_int (be_or b k0 k1 k2 k3 k4 k5 k6 k7), below_drewN ((Below.refl _ _).alloc (Nat.le_refl _) _) _⟩
end Go.Proofs.Ybulkcmcu
