import Derived.Test.YbulkcmcuWalkG
import Derived.Test.YbulkcmcuRegion
namespace Go.Proofs.Ybulkcmcu
open Go.RowKit
set_option linter.unusedVariables false
set_option linter.unusedSimpArgs false

structure Itr (B G : Nat) (zs : List Int) (cap : Nat) (off : Nat) (f : Bool) (b : Int) (st : Bool) (l t : Nat) (w : World) : Prop where
  rdr : Rdr B G zs cap off f w
  c24 : w.cell? ⟨B, 24, none⟩ = some (.int .u64 b)
  c31 : w.cell? ⟨B, 31, none⟩ = some (.bool st)
  c32 : w.cell? ⟨B, 32, none⟩ = some (.int .i64 l)
  c33 : w.cell? ⟨B, 33, none⟩ = some (.int .i64 t)
  z24 : w.frozen? ⟨B, 24, none⟩ = false
  z31 : w.frozen? ⟨B, 31, none⟩ = false
  z32 : w.frozen? ⟨B, 32, none⟩ = false
  z33 : w.frozen? ⟨B, 33, none⟩ = false

theorem Itr.next {B G : Nat} {zs : List Int} {cap off off' : Nat} {f f' : Bool} {b : Int} {st : Bool} {l t : Nat} {w w' : World} (h : Itr B G zs cap off f b st l t w) (hK : Kept B [1, 2] w w') (hr : Rdr B G zs cap off' f' w') : Itr B G zs cap off' f' b st l t w' :=
  ⟨hr, (hK.cell 24 (by simp) h.rdr.hB).trans h.c24, (hK.cell 31 (by simp) h.rdr.hB).trans h.c31, (hK.cell 32 (by simp) h.rdr.hB).trans h.c32, (hK.cell 33 (by simp) h.rdr.hB).trans h.c33,
   (hK.frozen ⟨B, 24, none⟩ h.rdr.hB).trans h.z24, (hK.frozen ⟨B, 31, none⟩ h.rdr.hB).trans h.z31, (hK.frozen ⟨B, 32, none⟩ h.rdr.hB).trans h.z32, (hK.frozen ⟨B, 33, none⟩ h.rdr.hB).trans h.z33⟩

theorem Itr.set24 {B G : Nat} {zs : List Int} {cap off : Nat} {f : Bool} {b : Int} {st : Bool} {l t : Nat} {w : World} (h : Itr B G zs cap off f b st l t w) (b' : Int) : Itr B G zs cap off f b' st l t (w.setCell ⟨B, 24, none⟩ (.int .u64 b')) := by
  have hK : Kept B [24] w (w.setCell ⟨B, 24, none⟩ (.int .u64 b')) := (Kept.refl _ _ _).setCell (by simp) _
  have hB := h.rdr.hB
  exact ⟨h.rdr.next hK (by simp) ((hK.cell 1 (by simp) hB).trans h.rdr.c1) ((hK.cell 2 (by simp) hB).trans h.rdr.c2) h.rdr.hoff, World.cell?_setCell_same _ _ _ h.c24,
    (hK.cell 31 (by simp) hB).trans h.c31, (hK.cell 32 (by simp) hB).trans h.c32, (hK.cell 33 (by simp) hB).trans h.c33,
    (hK.frozen ⟨B, 24, none⟩ hB).trans h.z24, (hK.frozen ⟨B, 31, none⟩ hB).trans h.z31, (hK.frozen ⟨B, 32, none⟩ hB).trans h.z32, (hK.frozen ⟨B, 33, none⟩ hB).trans h.z33⟩

def rawS : List Nat := [1, 2, 24, 31, 32, 33]
theorem Kept.raw {B : Nat} {w w' : World} (h : Kept B [1, 2] w w') : Kept B rawS w w' := h.mono (by intro o ho; simp [rawS] at ho ⊢; omega)

set_option maxHeartbeats 400000 in
/-- The first bit is 0, no window is set: the reader fails. -/
theorem raw_unset (B G : Nat) (zs : List Int) (cap off : Nat) (f : Bool) (b : Int) (l t : Nat) (w : World) (h : Itr B G zs cap off f b false l t w) (hc : rV zs off 1 = 0) :
    Calls Yba.prog 5 #[.pointer (some ⟨B, 0, none⟩)] w fun e w' => e = .returned (.tuple #[]) ∧ Kept B rawS w w' ∧ Itr B G zs cap (zs.length * 8) true b false l t w' := by
  go_enter Yba.func5, Yba.ntmps5
  go_wp2_with fail
  refine (readBit_u B G zs cap off f _ h.rdr false (by rw [hc]; rfl)).mono ?_
  rintro e w1 ⟨rfl, hK1, hr1⟩
  have h1 := h.next hK1 hr1
  have g31 := h1.c31
  go_wp2_with fail
  refine (fail_u B G zs cap _ _ _ hr1).mono ?_
  rintro e w2 ⟨rfl, hK2, hr2⟩
  go_wp2
  exact bodyPost_ret (results_none rfl _ _ _) rfl ⟨rfl, (hK1.trans hK2).raw, h1.next hK2 hr2⟩

set_option maxHeartbeats 400000 in
/-- The first bit is 0, a window is set. -/
theorem raw_set (B G : Nat) (zs : List Int) (cap off : Nat) (f : Bool) (b : Int) (l t m : Nat) (w : World) (h : Itr B G zs cap off f b true l t w) (hm : 1 ≤ m) (hlt : l + t + m = 64) (hc : rV zs off 1 = 0) :
    Calls Yba.prog 5 #[.pointer (some ⟨B, 0, none⟩)] w fun e w' => e = .returned (.tuple #[]) ∧ Kept B rawS w w' ∧ Itr B G zs cap (rO zs (rO zs off 1) m) (rF zs (rO zs off 1) m (rF zs off 1 f)) (bits .xor .u64 b (IntKind.u64.wrap (rV zs (rO zs off 1) m * 2 ^ t))) true l t w' := by
  go_enter Yba.func5, Yba.ntmps5
  go_wp2_with fail
  refine (readBit_u B G zs cap off f _ h.rdr false (by rw [hc]; rfl)).mono ?_
  rintro e w1 ⟨rfl, hK1, hr1⟩
  have h1 := h.next hK1 hr1
  have g31 := h1.c31
  have g24 := h1.c24
  have g32 := h1.c32
  have g33 := h1.c33
  go_wp2_with fail
  have e1 : IntKind.i64.wrap (64 - (l : Int)) = 64 - l := by simp [IntKind.wrap, IntKind.bits, IntKind.signed]; omega
  have e2 : IntKind.i64.wrap (64 - (l : Int) - t) = (m : Int) := by simp [IntKind.wrap, IntKind.bits, IntKind.signed]; omega
  have e3 : (0 : Int) ≤ (t : Int) := by omega
  have e4 : (t : Int) ≤ 64 := by omega
  have hm' : m ≤ 64 := by omega
  refine wp_region_G 28 (fun w' => w'.cell? ⟨B, 24, none⟩ = some (.int .u64 b) ∧ w'.cell? ⟨B, 32, none⟩ = some (.int .i64 l) ∧ w'.cell? ⟨B, 33, none⟩ = some (.int .i64 t)) (by kernel_rfl) ?_
  have hS : w1.drew.cell? ⟨B, 24, none⟩ = some (.int .u64 b) ∧ w1.drew.cell? ⟨B, 32, none⟩ = some (.int .i64 l) ∧ w1.drew.cell? ⟨B, 33, none⟩ = some (.int .i64 t) := ⟨g24, g32, g33⟩
  refine wpAnyG_take (i := 0) (v := .pointer (some ⟨B, 0, none⟩)) rfl (by kernel_rfl) (by kernel_rfl) (by kernel_rfl) (by kernel_rfl) (fun _ _ _ h => h) hS (by rfl) (fun w' hS' => by have s24 := hS'.1; have s32 := hS'.2.1; have s33 := hS'.2.2; go_simp) ?_
  simp only [Act.put, List.setIfInBounds_toArray, List.set_cons_zero, List.set_cons_succ]
  refine wpAnyG_take (i := 1) (v := .pointer (some ⟨B, 0, none⟩)) rfl (by kernel_rfl) (by kernel_rfl) (by kernel_rfl) (by kernel_rfl) (fun _ _ _ h => h) hS (by rfl) (fun w' hS' => by have s24 := hS'.1; have s32 := hS'.2.1; have s33 := hS'.2.2; go_simp) ?_
  simp only [Act.put, List.setIfInBounds_toArray, List.set_cons_zero, List.set_cons_succ]
  refine wpAnyG_take (i := 2) (v := .pointer (some ⟨B, 24, none⟩)) rfl (by kernel_rfl) (by kernel_rfl) (by kernel_rfl) (by kernel_rfl) (fun _ _ _ h => h) hS (by rfl) (fun w' hS' => by have s24 := hS'.1; have s32 := hS'.2.1; have s33 := hS'.2.2; go_simp) ?_
  simp only [Act.put, List.setIfInBounds_toArray, List.set_cons_zero, List.set_cons_succ]
  refine wpAnyG_take (i := 3) (v := .pointer (some ⟨B, 24, none⟩)) rfl (by kernel_rfl) (by kernel_rfl) (by kernel_rfl) (by kernel_rfl) (fun _ _ _ h => h) hS (by rfl) (fun w' hS' => by have s24 := hS'.1; have s32 := hS'.2.1; have s33 := hS'.2.2; go_simp) ?_
  simp only [Act.put, List.setIfInBounds_toArray, List.set_cons_zero, List.set_cons_succ]
  refine wpAnyG_take (i := 4) (v := .int .u64 b) rfl (by kernel_rfl) (by kernel_rfl) (by kernel_rfl) (by kernel_rfl) (fun _ _ _ h => h) hS (by rfl) (fun w' hS' => by have s24 := hS'.1; have s32 := hS'.2.1; have s33 := hS'.2.2; go_simp) ?_
  simp only [Act.put, List.setIfInBounds_toArray, List.set_cons_zero, List.set_cons_succ]
  refine wpAnyG_take (i := 5) (v := .pointer (some ⟨B, 0, none⟩)) rfl (by kernel_rfl) (by kernel_rfl) (by kernel_rfl) (by kernel_rfl) (fun _ _ _ h => h) hS (by rfl) (fun w' hS' => by have s24 := hS'.1; have s32 := hS'.2.1; have s33 := hS'.2.2; go_simp) ?_
  simp only [Act.put, List.setIfInBounds_toArray, List.set_cons_zero, List.set_cons_succ]
  refine wpAnyG_take (i := 6) (v := .pointer (some ⟨B, 0, none⟩)) rfl (by kernel_rfl) (by kernel_rfl) (by kernel_rfl) (by kernel_rfl) (fun _ _ _ h => h) hS (by rfl) (fun w' hS' => by have s24 := hS'.1; have s32 := hS'.2.1; have s33 := hS'.2.2; go_simp) ?_
  simp only [Act.put, List.setIfInBounds_toArray, List.set_cons_zero, List.set_cons_succ]
  refine wpAnyG_take (i := 7) (v := .pointer (some ⟨B, 0, none⟩)) rfl (by kernel_rfl) (by kernel_rfl) (by kernel_rfl) (by kernel_rfl) (fun _ _ _ h => h) hS (by rfl) (fun w' hS' => by have s24 := hS'.1; have s32 := hS'.2.1; have s33 := hS'.2.2; go_simp) ?_
  simp only [Act.put, List.setIfInBounds_toArray, List.set_cons_zero, List.set_cons_succ]
  refine wpAnyG_take (i := 8) (v := .pointer (some ⟨B, 31, none⟩)) rfl (by kernel_rfl) (by kernel_rfl) (by kernel_rfl) (by kernel_rfl) (fun _ _ _ h => h) hS (by rfl) (fun w' hS' => by have s24 := hS'.1; have s32 := hS'.2.1; have s33 := hS'.2.2; go_simp) ?_
  simp only [Act.put, List.setIfInBounds_toArray, List.set_cons_zero, List.set_cons_succ]
  refine wpAnyG_take (i := 9) (v := .pointer (some ⟨B, 31, none⟩)) rfl (by kernel_rfl) (by kernel_rfl) (by kernel_rfl) (by kernel_rfl) (fun _ _ _ h => h) hS (by rfl) (fun w' hS' => by have s24 := hS'.1; have s32 := hS'.2.1; have s33 := hS'.2.2; go_simp) ?_
  simp only [Act.put, List.setIfInBounds_toArray, List.set_cons_zero, List.set_cons_succ]
  refine wpAnyG_take (i := 10) (v := .pointer (some ⟨B, 32, none⟩)) rfl (by kernel_rfl) (by kernel_rfl) (by kernel_rfl) (by kernel_rfl) (fun _ _ _ h => h) hS (by rfl) (fun w' hS' => by have s24 := hS'.1; have s32 := hS'.2.1; have s33 := hS'.2.2; go_simp) ?_
  simp only [Act.put, List.setIfInBounds_toArray, List.set_cons_zero, List.set_cons_succ]
  refine wpAnyG_take (i := 11) (v := .int .i64 l) rfl (by kernel_rfl) (by kernel_rfl) (by kernel_rfl) (by kernel_rfl) (fun _ _ _ h => h) hS (by rfl) (fun w' hS' => by have s24 := hS'.1; have s32 := hS'.2.1; have s33 := hS'.2.2; go_simp) ?_
  simp only [Act.put, List.setIfInBounds_toArray, List.set_cons_zero, List.set_cons_succ]
  refine wpAnyG_take (i := 12) (v := .int .i64 (64 - l)) rfl (by kernel_rfl) (by kernel_rfl) (by kernel_rfl) (by kernel_rfl) (fun _ _ _ h => h) hS (by rfl) (fun w' hS' => by have s24 := hS'.1; have s32 := hS'.2.1; have s33 := hS'.2.2; go_simp) ?_
  simp only [Act.put, List.setIfInBounds_toArray, List.set_cons_zero, List.set_cons_succ]
  refine wpAnyG_take (i := 13) (v := .pointer (some ⟨B, 31, none⟩)) rfl (by kernel_rfl) (by kernel_rfl) (by kernel_rfl) (by kernel_rfl) (fun _ _ _ h => h) hS (by rfl) (fun w' hS' => by have s24 := hS'.1; have s32 := hS'.2.1; have s33 := hS'.2.2; go_simp) ?_
  simp only [Act.put, List.setIfInBounds_toArray, List.set_cons_zero, List.set_cons_succ]
  refine wpAnyG_take (i := 14) (v := .pointer (some ⟨B, 31, none⟩)) rfl (by kernel_rfl) (by kernel_rfl) (by kernel_rfl) (by kernel_rfl) (fun _ _ _ h => h) hS (by rfl) (fun w' hS' => by have s24 := hS'.1; have s32 := hS'.2.1; have s33 := hS'.2.2; go_simp) ?_
  simp only [Act.put, List.setIfInBounds_toArray, List.set_cons_zero, List.set_cons_succ]
  refine wpAnyG_take (i := 15) (v := .pointer (some ⟨B, 33, none⟩)) rfl (by kernel_rfl) (by kernel_rfl) (by kernel_rfl) (by kernel_rfl) (fun _ _ _ h => h) hS (by rfl) (fun w' hS' => by have s24 := hS'.1; have s32 := hS'.2.1; have s33 := hS'.2.2; go_simp) ?_
  simp only [Act.put, List.setIfInBounds_toArray, List.set_cons_zero, List.set_cons_succ]
  refine wpAnyG_take (i := 16) (v := .int .i64 t) rfl (by kernel_rfl) (by kernel_rfl) (by kernel_rfl) (by kernel_rfl) (fun _ _ _ h => h) hS (by rfl) (fun w' hS' => by have s24 := hS'.1; have s32 := hS'.2.1; have s33 := hS'.2.2; go_simp) ?_
  simp only [Act.put, List.setIfInBounds_toArray, List.set_cons_zero, List.set_cons_succ]
  refine wpAnyG_take (i := 17) (v := .int .i64 m) rfl (by kernel_rfl) (by kernel_rfl) (by kernel_rfl) (by kernel_rfl) (fun _ _ _ h => h) hS (by rfl) (fun w' hS' => by have s24 := hS'.1; have s32 := hS'.2.1; have s33 := hS'.2.2; go_simp) ?_
  simp only [Act.put, List.setIfInBounds_toArray, List.set_cons_zero, List.set_cons_succ]
  refine wpAnyG_take (i := 19) (v := .pointer (some ⟨B, 31, none⟩)) rfl (by kernel_rfl) (by kernel_rfl) (by kernel_rfl) (by kernel_rfl) (fun _ _ _ h => h) hS (by rfl) (fun w' hS' => by have s24 := hS'.1; have s32 := hS'.2.1; have s33 := hS'.2.2; go_simp) ?_
  simp only [Act.put, List.setIfInBounds_toArray, List.set_cons_zero, List.set_cons_succ]
  refine wpAnyG_take (i := 20) (v := .pointer (some ⟨B, 31, none⟩)) rfl (by kernel_rfl) (by kernel_rfl) (by kernel_rfl) (by kernel_rfl) (fun _ _ _ h => h) hS (by rfl) (fun w' hS' => by have s24 := hS'.1; have s32 := hS'.2.1; have s33 := hS'.2.2; go_simp) ?_
  simp only [Act.put, List.setIfInBounds_toArray, List.set_cons_zero, List.set_cons_succ]
  refine wpAnyG_take (i := 21) (v := .pointer (some ⟨B, 33, none⟩)) rfl (by kernel_rfl) (by kernel_rfl) (by kernel_rfl) (by kernel_rfl) (fun _ _ _ h => h) hS (by rfl) (fun w' hS' => by have s24 := hS'.1; have s32 := hS'.2.1; have s33 := hS'.2.2; go_simp) ?_
  simp only [Act.put, List.setIfInBounds_toArray, List.set_cons_zero, List.set_cons_succ]
  refine wpAnyG_take (i := 22) (v := .int .i64 t) rfl (by kernel_rfl) (by kernel_rfl) (by kernel_rfl) (by kernel_rfl) (fun _ _ _ h => h) hS (by rfl) (fun w' hS' => by have s24 := hS'.1; have s32 := hS'.2.1; have s33 := hS'.2.2; go_simp) ?_
  simp only [Act.put, List.setIfInBounds_toArray, List.set_cons_zero, List.set_cons_succ]
  refine wpAnyG_one (i := 18) (by kernel_rfl) rfl (fun K hK => ?_)
  go_simp
  refine (readBits_u B G zs cap (rO zs off 1) m (rF zs off 1 f) _ (by exact hr1.drew) hm hm').mono ?_
  rintro e w2 ⟨rfl, hK2, hr2⟩
  have h2 := h1.next ((Kept.refl _ _ _).drew.trans hK2) hr2
  have hS2 : w2.cell? ⟨B, 24, none⟩ = some (.int .u64 b) ∧ w2.cell? ⟨B, 32, none⟩ = some (.int .i64 l) ∧ w2.cell? ⟨B, 33, none⟩ = some (.int .i64 t) := ⟨h2.c24, h2.c32, h2.c33⟩
  refine hK.out _ _ hS2 (fun _ => ?_)
  clear hK K
  refine wpAnyG_take (i := 23) (v := .int .u64 (IntKind.u64.wrap (rV zs (rO zs off 1) m * 2 ^ t))) rfl (by kernel_rfl) (by kernel_rfl) (by kernel_rfl) (by kernel_rfl) (fun _ _ _ h => h) hS2 (by rfl) (fun w' hS' => by have s24 := hS'.1; have s32 := hS'.2.1; have s33 := hS'.2.2; go_simp) ?_
  simp only [Act.put, List.setIfInBounds_toArray, List.set_cons_zero, List.set_cons_succ]
  refine wpAnyG_take (i := 24) (v := .int .u64 (bits .xor .u64 b (IntKind.u64.wrap (rV zs (rO zs off 1) m * 2 ^ t)))) rfl (by kernel_rfl) (by kernel_rfl) (by kernel_rfl) (by kernel_rfl) (fun _ _ _ h => h) hS2 (by rfl) (fun w' hS' => by have s24 := hS'.1; have s32 := hS'.2.1; have s33 := hS'.2.2; go_simp) ?_
  simp only [Act.put, List.setIfInBounds_toArray, List.set_cons_zero, List.set_cons_succ]
  refine wpAnyG_one (i := 25) (by kernel_rfl) rfl (fun K hK => ?_)
  go_simp
  refine hK.out _ _ hS2 (fun _ => ?_)
  clear hK K
  refine wpAnyG_one (i := 26) (by kernel_rfl) rfl (fun K hK => ?_)
  go_simp
  refine hK.out _ _ hS2 (fun _ => ?_)
  clear hK K
  refine wpAnyG_one (i := 27) (by kernel_rfl) rfl (fun K hK => ?_)
  go_simp
  refine hK.out _ _ hS2 (fun _ => ?_)
  clear hK K
  have k24 := h2.c24
  have y24 := h2.z24
  refine wpAnyG_last (by kernel_rfl) rfl (fun K hK => ?_)
  go_simp
  refine hK.out _ _ ?_
  clear hK K
  refine wpAnyG_done (by kernel_rfl) ?_ _
  go_wp2
  refine bodyPost_ret (results_none rfl _ _ _) rfl ⟨rfl, ?_, h2.set24 _⟩
  exact ((hK1.trans (((Kept.refl _ _ _).drew).trans hK2)).raw).setCell (by simp [rawS]) _

set_option maxHeartbeats 400000 in
/-- The first bit is 1; leading and meaningful do not fit. -/
theorem raw_bad (B G : Nat) (zs : List Int) (cap off : Nat) (f : Bool) (b : Int) (st : Bool) (l t : Nat) (w : World) (h : Itr B G zs cap off f b st l t w) (hc : rV zs off 1 = 1)
    (nl mv : Nat) (hnl : rV zs (rO zs off 1) 6 = nl) (hmv : rV zs (rO zs (rO zs off 1) 6) 6 = mv) (hl6 : nl < 64) (hm6 : mv < 64) (hz : (((mv : Int) == 0) = true ∧ 64 < (nl : Int) + 64) ∨ (((mv : Int) == 0) = false ∧ 64 < (nl : Int) + mv)) :
    Calls Yba.prog 5 #[.pointer (some ⟨B, 0, none⟩)] w fun e w' => e = .returned (.tuple #[]) ∧ Kept B rawS w w' ∧ Itr B G zs cap (zs.length * 8) true b st l t w' := by
  go_enter Yba.func5, Yba.ntmps5
  go_wp2_with fail
  refine (readBit_u B G zs cap off f _ h.rdr true (by rw [hc]; rfl)).mono ?_
  rintro e w1 ⟨rfl, hK1, hr1⟩
  have h1 := h.next hK1 hr1
  clear hc
  go_wp2_with fail
  refine (readBits_u B G zs cap _ 6 _ _ hr1 (by omega) (by omega)).mono ?_
  rintro e w2 ⟨rfl, hK2, hr2⟩
  have h2 := h1.next hK2 hr2
  rw [hnl]
  go_wp2_with fail
  refine (readBits_u B G zs cap _ 6 _ _ hr2 (by omega) (by omega)).mono ?_
  rintro e w3 ⟨rfl, hK3, hr3⟩
  have h3 := h2.next hK3 hr3
  rw [hmv]
  clear hnl hmv
  rcases hz with ⟨hz0, hz1⟩ | ⟨hz0, hz1⟩
  all_goals
    go_wp2_with fail
    refine (fail_u B G zs cap _ _ _ hr3).mono ?_
    rintro e w4 ⟨rfl, hK4, hr4⟩
    go_wp2
    exact bodyPost_ret (results_none rfl _ _ _) rfl ⟨rfl, (((hK1.trans hK2).trans hK3).trans hK4).raw, h3.next hK4 hr4⟩

theorem Itr.setWin {B G : Nat} {zs : List Int} {cap off : Nat} {f : Bool} {b : Int} {st : Bool} {l t : Nat} {w : World} (h : Itr B G zs cap off f b st l t w) (st' : Bool) (l' t' : Nat) :
    Itr B G zs cap off f b st' l' t' (((w.setCell ⟨B, 31, none⟩ (.bool st')).setCell ⟨B, 32, none⟩ (.int .i64 l')).setCell ⟨B, 33, none⟩ (.int .i64 t')) := by
  have hK : Kept B [31, 32, 33] w (((w.setCell ⟨B, 31, none⟩ (.bool st')).setCell ⟨B, 32, none⟩ (.int .i64 l')).setCell ⟨B, 33, none⟩ (.int .i64 t')) := (((Kept.refl _ _ _).setCell (by simp) _).setCell (by simp) _).setCell (by simp) _
  have hB := h.rdr.hB
  refine ⟨h.rdr.next hK (by simp) ((hK.cell 1 (by simp) hB).trans h.rdr.c1) ((hK.cell 2 (by simp) hB).trans h.rdr.c2) h.rdr.hoff, (hK.cell 24 (by simp) hB).trans h.c24, ?_, ?_, ?_,
    (hK.frozen ⟨B, 24, none⟩ hB).trans h.z24, (hK.frozen ⟨B, 31, none⟩ hB).trans h.z31, (hK.frozen ⟨B, 32, none⟩ hB).trans h.z32, (hK.frozen ⟨B, 33, none⟩ hB).trans h.z33⟩
  · rw [World.cell?_setCell_other _ _ _ _ (by simp), World.cell?_setCell_other _ _ _ _ (by simp)]
    exact World.cell?_setCell_same _ _ _ h.c31
  · rw [World.cell?_setCell_other _ _ _ _ (by simp)]
    exact World.cell?_setCell_same _ _ _ (by rw [World.cell?_setCell_other _ _ _ _ (by simp)]; exact h.c32)
  · exact World.cell?_setCell_same _ _ _ (by rw [World.cell?_setCell_other _ _ _ _ (by simp), World.cell?_setCell_other _ _ _ _ (by simp)]; exact h.c33)

set_option maxHeartbeats 800000 in
/-- The first bit is 1; leading and meaningful fit. -/
theorem raw_good (B G : Nat) (zs : List Int) (cap off : Nat) (f : Bool) (b : Int) (st : Bool) (l t : Nat) (w : World) (h : Itr B G zs cap off f b st l t w) (hc : rV zs off 1 = 1)
    (nl mv nm nt : Nat) (hnl : rV zs (rO zs off 1) 6 = nl) (hmv : rV zs (rO zs (rO zs off 1) 6) 6 = mv) (hl6 : nl < 64) (hm6 : mv < 64) (hz : (((mv : Int) == 0) = true ∧ nm = 64) ∨ (((mv : Int) == 0) = false ∧ nm = mv)) (hm1 : 1 ≤ nm) (hfit : nl + nm + nt = 64)
    (o3 : Nat) (f3 : Bool) (ho3 : rO zs (rO zs (rO zs off 1) 6) 6 = o3) (hf3 : rF zs (rO zs (rO zs off 1) 6) 6 (rF zs (rO zs off 1) 6 (rF zs off 1 f)) = f3) :
    Calls Yba.prog 5 #[.pointer (some ⟨B, 0, none⟩)] w fun e w' => e = .returned (.tuple #[]) ∧ Kept B rawS w w' ∧
      Itr B G zs cap (rO zs o3 nm) (rF zs o3 nm f3) (bits .xor .u64 b (IntKind.u64.wrap (rV zs o3 nm * 2 ^ nt))) true nl nt w' := by
  have HO : Hid (rO zs (rO zs (rO zs off 1) 6) 6 = o3) := ho3
  have HF : Hid (rF zs (rO zs (rO zs off 1) 6) 6 (rF zs (rO zs off 1) 6 (rF zs off 1 f)) = f3) := hf3
  clear ho3 hf3
  go_enter Yba.func5, Yba.ntmps5
  go_wp2_with fail
  refine (readBit_u B G zs cap off f _ h.rdr true (by rw [hc]; rfl)).mono ?_
  rintro e w1 ⟨rfl, hK1, hr1⟩
  have h1 := h.next hK1 hr1
  clear hc
  go_wp2_with fail
  refine (readBits_u B G zs cap _ 6 _ _ hr1 (by omega) (by omega)).mono ?_
  rintro e w2 ⟨rfl, hK2, hr2⟩
  have h2 := h1.next hK2 hr2
  rw [hnl]
  go_wp2_with fail
  refine (readBits_u B G zs cap _ 6 _ _ hr2 (by omega) (by omega)).mono ?_
  rintro e w3 ⟨rfl, hK3, hr3⟩
  have h3 := h2.next hK3 hr3
  rw [hmv]
  clear hnl hmv
  rw [HO.out, HF.out] at hr3 h3
  have hKa := (hK1.trans hK2).trans hK3
  clear hr1 hr2 h1 h2 hK1 hK2 hK3 HO HF
  have g24 := h3.c24
  have hm' : nm ≤ 64 := by omega
  have e1 : (64 : Int) - nl - nm = nt := by omega
  have e3 : (0 : Int) ≤ (nt : Int) := by omega
  have e4 : (nt : Int) ≤ 64 := by omega
  rcases hz with ⟨hz0, hnm⟩ | ⟨hz0, hnm⟩
  · subst hnm
    have ht : ¬ 64 < (nl : Int) + 64 := by omega
    have e1' : (64 : Int) - nl - 64 = nt := by omega
    have e5 : IntKind.i64.wrap (64 - (nl : Int) - 64) = (nt : Int) := by simp [IntKind.wrap, IntKind.bits, IntKind.signed]; omega
    go_wp2_with fail
    refine wp_region_G 16 (fun w' => w'.cell? ⟨B, 24, none⟩ = some (.int .u64 b)) (by kernel_rfl) ?_
    have hS : w3.drew.cell? ⟨B, 24, none⟩ = some (.int .u64 b) := g24
    refine wpAnyG_take (i := 0) (v := .pointer (some ⟨B, 0, none⟩)) rfl (by kernel_rfl) (by kernel_rfl) (by kernel_rfl) (by kernel_rfl) (fun _ _ _ h => h) hS (by rfl) (fun w' hS' => by have s24 : w'.cell? ⟨B, 24, none⟩ = some (.int .u64 b) := hS'; go_simp) ?_
    simp only [Act.put, List.setIfInBounds_toArray, List.set_cons_zero, List.set_cons_succ]
    refine wpAnyG_take (i := 1) (v := .pointer (some ⟨B, 0, none⟩)) rfl (by kernel_rfl) (by kernel_rfl) (by kernel_rfl) (by kernel_rfl) (fun _ _ _ h => h) hS (by rfl) (fun w' hS' => by have s24 : w'.cell? ⟨B, 24, none⟩ = some (.int .u64 b) := hS'; go_simp) ?_
    simp only [Act.put, List.setIfInBounds_toArray, List.set_cons_zero, List.set_cons_succ]
    refine wpAnyG_take (i := 2) (v := .pointer (some ⟨B, 24, none⟩)) rfl (by kernel_rfl) (by kernel_rfl) (by kernel_rfl) (by kernel_rfl) (fun _ _ _ h => h) hS (by rfl) (fun w' hS' => by have s24 : w'.cell? ⟨B, 24, none⟩ = some (.int .u64 b) := hS'; go_simp) ?_
    simp only [Act.put, List.setIfInBounds_toArray, List.set_cons_zero, List.set_cons_succ]
    refine wpAnyG_take (i := 3) (v := .pointer (some ⟨B, 24, none⟩)) rfl (by kernel_rfl) (by kernel_rfl) (by kernel_rfl) (by kernel_rfl) (fun _ _ _ h => h) hS (by rfl) (fun w' hS' => by have s24 : w'.cell? ⟨B, 24, none⟩ = some (.int .u64 b) := hS'; go_simp) ?_
    simp only [Act.put, List.setIfInBounds_toArray, List.set_cons_zero, List.set_cons_succ]
    refine wpAnyG_take (i := 4) (v := .int .u64 b) rfl (by kernel_rfl) (by kernel_rfl) (by kernel_rfl) (by kernel_rfl) (fun _ _ _ h => h) hS (by rfl) (fun w' hS' => by have s24 : w'.cell? ⟨B, 24, none⟩ = some (.int .u64 b) := hS'; go_simp) ?_
    simp only [Act.put, List.setIfInBounds_toArray, List.set_cons_zero, List.set_cons_succ]
    refine wpAnyG_take (i := 5) (v := .pointer (some ⟨B, 0, none⟩)) rfl (by kernel_rfl) (by kernel_rfl) (by kernel_rfl) (by kernel_rfl) (fun _ _ _ h => h) hS (by rfl) (fun w' hS' => by have s24 : w'.cell? ⟨B, 24, none⟩ = some (.int .u64 b) := hS'; go_simp) ?_
    simp only [Act.put, List.setIfInBounds_toArray, List.set_cons_zero, List.set_cons_succ]
    refine wpAnyG_take (i := 6) (v := .pointer (some ⟨B, 0, none⟩)) rfl (by kernel_rfl) (by kernel_rfl) (by kernel_rfl) (by kernel_rfl) (fun _ _ _ h => h) hS (by rfl) (fun w' hS' => by have s24 : w'.cell? ⟨B, 24, none⟩ = some (.int .u64 b) := hS'; go_simp) ?_
    simp only [Act.put, List.setIfInBounds_toArray, List.set_cons_zero, List.set_cons_succ]
    refine wpAnyG_take (i := 7) (v := .pointer (some ⟨B, 0, none⟩)) rfl (by kernel_rfl) (by kernel_rfl) (by kernel_rfl) (by kernel_rfl) (fun _ _ _ h => h) hS (by rfl) (fun w' hS' => by have s24 : w'.cell? ⟨B, 24, none⟩ = some (.int .u64 b) := hS'; go_simp) ?_
    simp only [Act.put, List.setIfInBounds_toArray, List.set_cons_zero, List.set_cons_succ]
    refine wpAnyG_take (i := 8) (v := .int .i64 64) rfl (by kernel_rfl) (by kernel_rfl) (by kernel_rfl) (by kernel_rfl) (fun _ _ _ h => h) hS (by rfl) (fun w' hS' => by have s24 : w'.cell? ⟨B, 24, none⟩ = some (.int .u64 b) := hS'; go_simp) ?_
    simp only [Act.put, List.setIfInBounds_toArray, List.set_cons_zero, List.set_cons_succ]
    refine wpAnyG_take (i := 10) (v := .int .i64 nt) rfl (by kernel_rfl) (by kernel_rfl) (by kernel_rfl) (by kernel_rfl) (fun _ _ _ h => h) hS (by rfl) (fun w' hS' => by have s24 : w'.cell? ⟨B, 24, none⟩ = some (.int .u64 b) := hS'; go_simp) ?_
    simp only [Act.put, List.setIfInBounds_toArray, List.set_cons_zero, List.set_cons_succ]
    refine wpAnyG_one (i := 9) (by kernel_rfl) rfl (fun K hK => ?_)
    go_simp
    refine (readBits_u B G zs cap o3 64 f3 _ (by exact hr3.drew) hm1 hm').mono ?_
    rintro e w4 ⟨rfl, hK4, hr4⟩
    have h4 := h3.next ((Kept.refl _ _ _).drew.trans hK4) hr4
    have hS2 : w4.cell? ⟨B, 24, none⟩ = some (.int .u64 b) := h4.c24
    refine hK.out _ _ hS2 (fun _ => ?_)
    clear hK K
    refine wpAnyG_take (i := 11) (v := .int .u64 (IntKind.u64.wrap (rV zs o3 64 * 2 ^ nt))) rfl (by kernel_rfl) (by kernel_rfl) (by kernel_rfl) (by kernel_rfl) (fun _ _ _ h => h) hS2 (by rfl) (fun w' hS' => by have s24 : w'.cell? ⟨B, 24, none⟩ = some (.int .u64 b) := hS'; go_simp) ?_
    simp only [Act.put, List.setIfInBounds_toArray, List.set_cons_zero, List.set_cons_succ]
    refine wpAnyG_take (i := 12) (v := .int .u64 (bits .xor .u64 b (IntKind.u64.wrap (rV zs o3 64 * 2 ^ nt)))) rfl (by kernel_rfl) (by kernel_rfl) (by kernel_rfl) (by kernel_rfl) (fun _ _ _ h => h) hS2 (by rfl) (fun w' hS' => by have s24 : w'.cell? ⟨B, 24, none⟩ = some (.int .u64 b) := hS'; go_simp) ?_
    simp only [Act.put, List.setIfInBounds_toArray, List.set_cons_zero, List.set_cons_succ]
    refine wpAnyG_one (i := 13) (by kernel_rfl) rfl (fun K hK => ?_)
    go_simp
    refine hK.out _ _ hS2 (fun _ => ?_)
    clear hK K
    refine wpAnyG_one (i := 14) (by kernel_rfl) rfl (fun K hK => ?_)
    go_simp
    refine hK.out _ _ hS2 (fun _ => ?_)
    clear hK K
    refine wpAnyG_one (i := 15) (by kernel_rfl) rfl (fun K hK => ?_)
    go_simp
    refine hK.out _ _ hS2 (fun _ => ?_)
    clear hK K
    have k24 := h4.c24
    have y24 := h4.z24
    refine wpAnyG_last (by kernel_rfl) rfl (fun K hK => ?_)
    go_simp
    refine hK.out _ _ ?_
    clear hK K
    refine wpAnyG_done (by kernel_rfl) ?_ _
    have h5 := h4.set24 (bits .xor .u64 b (IntKind.u64.wrap (rV zs o3 64 * 2 ^ nt)))
    have q31 := h5.c31
    have q32 := h5.c32
    have q33 := h5.c33
    have y31 := h5.z31
    have y32 := h5.z32
    have y33 := h5.z33
    go_wp2
    go_end0
    refine ⟨rfl, ?_, h5.setWin true nl nt⟩
    exact ((((hKa.trans (((Kept.refl _ _ _).drew).trans hK4)).raw.setCell (by simp [rawS]) _).setCell (by simp [rawS]) _).setCell (by simp [rawS]) _).setCell (by simp [rawS]) _
  · subst hnm
    have ht : ¬ 64 < (nl : Int) + nm := by omega
    go_wp2_with fail
    refine wp_region_G 16 (fun w' => w'.cell? ⟨B, 24, none⟩ = some (.int .u64 b)) (by kernel_rfl) ?_
    have hS : w3.drew.cell? ⟨B, 24, none⟩ = some (.int .u64 b) := g24
    refine wpAnyG_take (i := 0) (v := .pointer (some ⟨B, 0, none⟩)) rfl (by kernel_rfl) (by kernel_rfl) (by kernel_rfl) (by kernel_rfl) (fun _ _ _ h => h) hS (by rfl) (fun w' hS' => by have s24 : w'.cell? ⟨B, 24, none⟩ = some (.int .u64 b) := hS'; go_simp) ?_
    simp only [Act.put, List.setIfInBounds_toArray, List.set_cons_zero, List.set_cons_succ]
    refine wpAnyG_take (i := 1) (v := .pointer (some ⟨B, 0, none⟩)) rfl (by kernel_rfl) (by kernel_rfl) (by kernel_rfl) (by kernel_rfl) (fun _ _ _ h => h) hS (by rfl) (fun w' hS' => by have s24 : w'.cell? ⟨B, 24, none⟩ = some (.int .u64 b) := hS'; go_simp) ?_
    simp only [Act.put, List.setIfInBounds_toArray, List.set_cons_zero, List.set_cons_succ]
    refine wpAnyG_take (i := 2) (v := .pointer (some ⟨B, 24, none⟩)) rfl (by kernel_rfl) (by kernel_rfl) (by kernel_rfl) (by kernel_rfl) (fun _ _ _ h => h) hS (by rfl) (fun w' hS' => by have s24 : w'.cell? ⟨B, 24, none⟩ = some (.int .u64 b) := hS'; go_simp) ?_
    simp only [Act.put, List.setIfInBounds_toArray, List.set_cons_zero, List.set_cons_succ]
    refine wpAnyG_take (i := 3) (v := .pointer (some ⟨B, 24, none⟩)) rfl (by kernel_rfl) (by kernel_rfl) (by kernel_rfl) (by kernel_rfl) (fun _ _ _ h => h) hS (by rfl) (fun w' hS' => by have s24 : w'.cell? ⟨B, 24, none⟩ = some (.int .u64 b) := hS'; go_simp) ?_
    simp only [Act.put, List.setIfInBounds_toArray, List.set_cons_zero, List.set_cons_succ]
    refine wpAnyG_take (i := 4) (v := .int .u64 b) rfl (by kernel_rfl) (by kernel_rfl) (by kernel_rfl) (by kernel_rfl) (fun _ _ _ h => h) hS (by rfl) (fun w' hS' => by have s24 : w'.cell? ⟨B, 24, none⟩ = some (.int .u64 b) := hS'; go_simp) ?_
    simp only [Act.put, List.setIfInBounds_toArray, List.set_cons_zero, List.set_cons_succ]
    refine wpAnyG_take (i := 5) (v := .pointer (some ⟨B, 0, none⟩)) rfl (by kernel_rfl) (by kernel_rfl) (by kernel_rfl) (by kernel_rfl) (fun _ _ _ h => h) hS (by rfl) (fun w' hS' => by have s24 : w'.cell? ⟨B, 24, none⟩ = some (.int .u64 b) := hS'; go_simp) ?_
    simp only [Act.put, List.setIfInBounds_toArray, List.set_cons_zero, List.set_cons_succ]
    refine wpAnyG_take (i := 6) (v := .pointer (some ⟨B, 0, none⟩)) rfl (by kernel_rfl) (by kernel_rfl) (by kernel_rfl) (by kernel_rfl) (fun _ _ _ h => h) hS (by rfl) (fun w' hS' => by have s24 : w'.cell? ⟨B, 24, none⟩ = some (.int .u64 b) := hS'; go_simp) ?_
    simp only [Act.put, List.setIfInBounds_toArray, List.set_cons_zero, List.set_cons_succ]
    refine wpAnyG_take (i := 7) (v := .pointer (some ⟨B, 0, none⟩)) rfl (by kernel_rfl) (by kernel_rfl) (by kernel_rfl) (by kernel_rfl) (fun _ _ _ h => h) hS (by rfl) (fun w' hS' => by have s24 : w'.cell? ⟨B, 24, none⟩ = some (.int .u64 b) := hS'; go_simp) ?_
    simp only [Act.put, List.setIfInBounds_toArray, List.set_cons_zero, List.set_cons_succ]
    refine wpAnyG_take (i := 8) (v := .int .i64 nm) rfl (by kernel_rfl) (by kernel_rfl) (by kernel_rfl) (by kernel_rfl) (fun _ _ _ h => h) hS (by rfl) (fun w' hS' => by have s24 : w'.cell? ⟨B, 24, none⟩ = some (.int .u64 b) := hS'; go_simp) ?_
    simp only [Act.put, List.setIfInBounds_toArray, List.set_cons_zero, List.set_cons_succ]
    refine wpAnyG_take (i := 10) (v := .int .i64 nt) rfl (by kernel_rfl) (by kernel_rfl) (by kernel_rfl) (by kernel_rfl) (fun _ _ _ h => h) hS (by rfl) (fun w' hS' => by have s24 : w'.cell? ⟨B, 24, none⟩ = some (.int .u64 b) := hS'; go_simp) ?_
    simp only [Act.put, List.setIfInBounds_toArray, List.set_cons_zero, List.set_cons_succ]
    refine wpAnyG_one (i := 9) (by kernel_rfl) rfl (fun K hK => ?_)
    go_simp
    refine (readBits_u B G zs cap o3 nm f3 _ (by exact hr3.drew) hm1 hm').mono ?_
    rintro e w4 ⟨rfl, hK4, hr4⟩
    have h4 := h3.next ((Kept.refl _ _ _).drew.trans hK4) hr4
    have hS2 : w4.cell? ⟨B, 24, none⟩ = some (.int .u64 b) := h4.c24
    refine hK.out _ _ hS2 (fun _ => ?_)
    clear hK K
    refine wpAnyG_take (i := 11) (v := .int .u64 (IntKind.u64.wrap (rV zs o3 nm * 2 ^ nt))) rfl (by kernel_rfl) (by kernel_rfl) (by kernel_rfl) (by kernel_rfl) (fun _ _ _ h => h) hS2 (by rfl) (fun w' hS' => by have s24 : w'.cell? ⟨B, 24, none⟩ = some (.int .u64 b) := hS'; go_simp) ?_
    simp only [Act.put, List.setIfInBounds_toArray, List.set_cons_zero, List.set_cons_succ]
    refine wpAnyG_take (i := 12) (v := .int .u64 (bits .xor .u64 b (IntKind.u64.wrap (rV zs o3 nm * 2 ^ nt)))) rfl (by kernel_rfl) (by kernel_rfl) (by kernel_rfl) (by kernel_rfl) (fun _ _ _ h => h) hS2 (by rfl) (fun w' hS' => by have s24 : w'.cell? ⟨B, 24, none⟩ = some (.int .u64 b) := hS'; go_simp) ?_
    simp only [Act.put, List.setIfInBounds_toArray, List.set_cons_zero, List.set_cons_succ]
    refine wpAnyG_one (i := 13) (by kernel_rfl) rfl (fun K hK => ?_)
    go_simp
    refine hK.out _ _ hS2 (fun _ => ?_)
    clear hK K
    refine wpAnyG_one (i := 14) (by kernel_rfl) rfl (fun K hK => ?_)
    go_simp
    refine hK.out _ _ hS2 (fun _ => ?_)
    clear hK K
    refine wpAnyG_one (i := 15) (by kernel_rfl) rfl (fun K hK => ?_)
    go_simp
    refine hK.out _ _ hS2 (fun _ => ?_)
    clear hK K
    have k24 := h4.c24
    have y24 := h4.z24
    refine wpAnyG_last (by kernel_rfl) rfl (fun K hK => ?_)
    go_simp
    refine hK.out _ _ ?_
    clear hK K
    refine wpAnyG_done (by kernel_rfl) ?_ _
    have h5 := h4.set24 (bits .xor .u64 b (IntKind.u64.wrap (rV zs o3 nm * 2 ^ nt)))
    have q31 := h5.c31
    have q32 := h5.c32
    have q33 := h5.c33
    have y31 := h5.z31
    have y32 := h5.z32
    have y33 := h5.z33
    go_wp2
    go_end0
    refine ⟨rfl, ?_, h5.setWin true nl nt⟩
    exact ((((hKa.trans (((Kept.refl _ _ _).drew).trans hK4)).raw.setCell (by simp [rawS]) _).setCell (by simp [rawS]) _).setCell (by simp [rawS]) _).setCell (by simp [rawS]) _
end Go.Proofs.Ybulkcmcu
