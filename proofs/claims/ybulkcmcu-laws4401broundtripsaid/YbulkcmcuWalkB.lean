import Derived.Test.YbulkcmcuWalkA
import Derived.Test.YbulkcmcuKept
import Derived.Test.YbulkcmcuMath
import Derived.Laws.BitsLemmas
namespace Go.Proofs.Ybulkcmcu
open Go.RowKit

theorem u8_and1 (x : Int) (h₀ : 0 ≤ x) (h₁ : x < 256) : bits .and .u8 x 1 = x % 2 := bits_mask .u8 8 (by decide) wraps_u8 1 (by decide) x h₀ h₁
theorem div_pow_bd (x : Int) (k : Nat) (h₀ : 0 ≤ x) (h₁ : x < 256) : 0 ≤ x / 2 ^ k ∧ x / 2 ^ k < 256 :=
  ⟨Int.ediv_nonneg h₀ (Int.le_of_lt (pow_two_pos k)), Int.lt_of_le_of_lt (Int.ediv_le_self _ h₀) h₁⟩

/-- 'r.b[off/8] >> (7 - off%8) & 1' is the bit. -/
theorem and_bit (zs : List Int) (off : Nat) (hz : ∀ j, 0 ≤ zs.getD j 0 ∧ zs.getD j 0 < 256) : bits .and .u8 (zs[off / 8]?.getD 0 / 2 ^ (7 - off % 8)) 1 = bitAt zs off := by
  have h := hz (off / 8)
  simp only [List.getD_eq_getElem?_getD] at h
  rw [u8_and1 _ (div_pow_bd _ _ h.1 h.2).1 (div_pow_bd _ _ h.1 h.2).2]
  simp [bitAt]

set_option maxHeartbeats 400000 in
theorem readBit_end (B : Nat) (bp : Option Addr) (len cap : Nat) (off : Int) (f : Bool) (w : World) (hl : len ≤ 1024) (ho : off = len * 8)
    (h0 : w.cell? ⟨B, 0, none⟩ = some (.slice bp len cap)) (h1 : w.cell? ⟨B, 1, none⟩ = some (.int .i64 off)) (h2 : w.cell? ⟨B, 2, none⟩ = some (.bool f))
    (z1 : w.frozen? ⟨B, 1, none⟩ = false) (z2 : w.frozen? ⟨B, 2, none⟩ = false) :
    Calls Yba.prog 8 #[.pointer (some ⟨B, 0, none⟩)] w fun e w' => e = .returned (.bool false) ∧ Kept B [1, 2] w w' ∧ w'.cell? ⟨B, 1, none⟩ = some (.int .i64 (len * 8)) ∧ w'.cell? ⟨B, 2, none⟩ = some (.bool true) := by
  subst ho
  go_enter Yba.func8, Yba.ntmps8
  go_wp2
  go_quiet (fail)
  go_wp2_with fail
  refine (fail_any B bp len cap _ f _ hl (by simpa using h0) (by simpa using h1) (by simpa using h2) (by simpa using z1) (by simpa using z2)).mono ?_
  rintro e w' ⟨rfl, rfl⟩
  go_wp2
  go_ret
  refine ⟨rfl, ((Kept.of_below (below_drewN (Below.refl _ _) _)).setCell (by simp) _).setCell (by simp) _, ?_, ?_⟩
  · exact World.cell?_setCell_same _ _ _ (by rw [World.cell?_setCell_other _ _ _ _ (by simp)]; simpa using h1)
  · rw [World.cell?_setCell_other _ _ _ _ (by simp)]
    exact World.cell?_setCell_same _ _ _ (by simpa using h2)

set_option maxHeartbeats 400000 in
theorem readBit_in (B G : Nat) (len cap : Nat) (zs : List Int) (off : Nat) (f : Bool) (w : World) (hl : len ≤ 1024) (ho : off < len * 8) (hzb : ∀ j, 0 ≤ zs.getD j 0 ∧ zs.getD j 0 < 256)
    (hz : ∀ j, j < len → w.cell? ⟨G, j, none⟩ = some (.int .u8 (zs.getD j 0)))
    (h0 : w.cell? ⟨B, 0, none⟩ = some (.slice (some ⟨G, 0, none⟩) len cap)) (h1 : w.cell? ⟨B, 1, none⟩ = some (.int .i64 off)) (h2 : w.cell? ⟨B, 2, none⟩ = some (.bool f))
    (z1 : w.frozen? ⟨B, 1, none⟩ = false) (bv : Bool) (hbv : bv = decide (bitAt zs off = 1)) :
    Calls Yba.prog 8 #[.pointer (some ⟨B, 0, none⟩)] w fun e w' => e = .returned (.bool bv) ∧ Kept B [1, 2] w w' ∧ w'.cell? ⟨B, 1, none⟩ = some (.int .i64 (off + 1)) ∧ w'.cell? ⟨B, 2, none⟩ = some (.bool f) := by
  have g := hz (off / 8) (by omega)
  have hne : ((off : Int) == (len : Int) * 8) = false := by simp; omega
  have hb1 : (off : Int) / 8 < (len : Int) := by omega
  have HB : Hid (bv = decide (bitAt zs off = 1)) := hbv
  have HZ : Hid (∀ j, 0 ≤ zs.getD j 0 ∧ zs.getD j 0 < 256) := hzb
  clear hbv hzb
  go_enter Yba.func8, Yba.ntmps8
  go_wp2
  go_quiet (fail)
  go_wp2
  go_quiet (fail)
  go_wp2
  go_ret
  refine ⟨?_, (Kept.of_below (below_drewN (Below.refl _ _) _)).setCell (by simp) _, ?_, ?_⟩
  · rw [and_bit zs off HZ.out, HB.out]; rfl
  · exact World.cell?_setCell_same _ _ _ (by simpa using h1)
  · rw [World.cell?_setCell_other _ _ _ _ (by simp)]
    simpa using h2
end Go.Proofs.Ybulkcmcu
