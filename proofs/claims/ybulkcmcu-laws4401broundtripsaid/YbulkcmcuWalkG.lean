import Derived.Test.YbulkcmcuWalkF
namespace Go.Proofs.Ybulkcmcu
open Go.RowKit
set_option linter.unusedVariables false
set_option linter.unusedSimpArgs false

/-- WHAT A READ OF n BITS AT p GIVES: the number, the new place, the new flag. -/
def rV (zs : List Int) (p n : Nat) : Int := if p + n ≤ zs.length * 8 then rd zs p n else 0
def rO (zs : List Int) (p n : Nat) : Nat := if p + n ≤ zs.length * 8 then p + n else zs.length * 8
def rF (zs : List Int) (p n : Nat) (f : Bool) : Bool := if p + n ≤ zs.length * 8 then f else true

theorem rV_bd (zs : List Int) (p n : Nat) : 0 ≤ rV zs p n ∧ rV zs p n < 2 ^ n := by
  unfold rV; split
  · exact rd_bd zs p n
  · exact ⟨Int.le_refl _, pow_two_pos n⟩
theorem rO_le (zs : List Int) (p n : Nat) : rO zs p n ≤ zs.length * 8 := by unfold rO; split <;> omega
theorem rV_1 (zs : List Int) (p : Nat) : rV zs p 1 = 0 ∨ rV zs p 1 = 1 := by have := rV_bd zs p 1; simp at this; omega
theorem rV_6 (zs : List Int) (p : Nat) : 0 ≤ rV zs p 6 ∧ rV zs p 6 < 64 := rV_bd zs p 6

/-- WHAT IS KNOWN OF THE READER AT BLOCK B: its bytes, its place, its flag. -/
structure Rdr (B G : Nat) (zs : List Int) (cap : Nat) (off : Nat) (f : Bool) (w : World) : Prop where
  hlen : zs.length ≤ 1024
  hcap : zs.length ≤ cap
  byte : ∀ j, 0 ≤ zs.getD j 0 ∧ zs.getD j 0 < 256
  row : ∀ j, j < zs.length → w.cell? ⟨G, j, none⟩ = some (.int .u8 (zs.getD j 0))
  hG : G < w.heap.size
  hB : B < w.heap.size
  ne : G ≠ B
  c0 : w.cell? ⟨B, 0, none⟩ = some (.slice (some ⟨G, 0, none⟩) zs.length cap)
  c1 : w.cell? ⟨B, 1, none⟩ = some (.int .i64 off)
  c2 : w.cell? ⟨B, 2, none⟩ = some (.bool f)
  z1 : w.frozen? ⟨B, 1, none⟩ = false
  z2 : w.frozen? ⟨B, 2, none⟩ = false
  hoff : off ≤ zs.length * 8

theorem Rdr.next {B G : Nat} {zs : List Int} {cap off off' : Nat} {f f' : Bool} {w w' : World} {S : List Nat} (h : Rdr B G zs cap off f w) (hK : Kept B S w w') (hS : 0 ∉ S) (c1 : w'.cell? ⟨B, 1, none⟩ = some (.int .i64 off')) (c2 : w'.cell? ⟨B, 2, none⟩ = some (.bool f')) (ho : off' ≤ zs.length * 8) : Rdr B G zs cap off' f' w' :=
  ⟨h.hlen, h.hcap, h.byte, fun j hj => (hK.far (p := ⟨G, j, none⟩) h.hG h.ne).trans (h.row j hj), Nat.lt_of_lt_of_le h.hG hK.size, Nat.lt_of_lt_of_le h.hB hK.size, h.ne, (hK.cell 0 hS h.hB).trans h.c0, c1, c2, (hK.frozen ⟨B, 1, none⟩ h.hB).trans h.z1, (hK.frozen ⟨B, 2, none⟩ h.hB).trans h.z2, ho⟩

theorem Rdr.drewN {B G : Nat} {zs : List Int} {cap off : Nat} {f : Bool} {w : World} (h : Rdr B G zs cap off f w) (n : Nat) : Rdr B G zs cap off f (w.drewN n) :=
  h.next (S := []) (Kept.of_below (below_drewN (Below.refl _ _) _)) (by simp) (by simpa using h.c1) (by simpa using h.c2) h.hoff
theorem Rdr.drew {B G : Nat} {zs : List Int} {cap off : Nat} {f : Bool} {w : World} (h : Rdr B G zs cap off f w) : Rdr B G zs cap off f w.drew :=
  h.next (S := []) (Kept.refl _ _ _).drew (by simp) (by simpa using h.c1) (by simpa using h.c2) h.hoff

theorem fail_u (B G : Nat) (zs : List Int) (cap off : Nat) (f : Bool) (w : World) (h : Rdr B G zs cap off f w) :
    Calls Yba.prog 9 #[.pointer (some ⟨B, 0, none⟩)] w fun e w' => e = .returned (.tuple #[]) ∧ Kept B [1, 2] w w' ∧ Rdr B G zs cap (zs.length * 8) true w' := by
  refine (fail_any B _ zs.length cap off f w h.hlen h.c0 h.c1 h.c2 h.z1 h.z2).mono ?_
  rintro e w' ⟨rfl, rfl⟩
  have hK : Kept B [1, 2] w ((w.setCell ⟨B, 2, none⟩ (.bool true)).setCell ⟨B, 1, none⟩ (.int .i64 (zs.length * 8))) := ((Kept.refl _ _ _).setCell (by simp) _).setCell (by simp) _
  refine ⟨rfl, hK, h.next hK (by simp) ?_ ?_ (Nat.le_refl _)⟩
  · rw [World.cell?_setCell_same _ _ _ (by rw [World.cell?_setCell_other _ _ _ _ (by simp)]; exact h.c1)]; simp
  · rw [World.cell?_setCell_other _ _ _ _ (by simp)]
    exact World.cell?_setCell_same _ _ _ h.c2

theorem readBits_u (B G : Nat) (zs : List Int) (cap off n : Nat) (f : Bool) (w : World) (h : Rdr B G zs cap off f w) (hn1 : 1 ≤ n) (hn : n ≤ 64) :
    Calls Yba.prog 10 #[.pointer (some ⟨B, 0, none⟩), .int .i64 n] w fun e w' => e = .returned (.int .u64 (rV zs off n)) ∧ Kept B [1, 2] w w' ∧ Rdr B G zs cap (rO zs off n) (rF zs off n f) w' := by
  by_cases hh : off + n ≤ zs.length * 8
  · refine (readBits_any B G zs.length cap zs off n f w h.hlen h.hcap hn1 hn hh rfl h.byte h.row h.hG h.hB h.ne h.c0 h.c1 h.c2 h.z1).mono ?_
    rintro e w' ⟨rfl, hK, c1, c2⟩
    have e1 : rV zs off n = rd zs off n := by unfold rV; rw [if_pos hh]
    have e2 : rO zs off n = off + n := by unfold rO; rw [if_pos hh]
    have e3 : rF zs off n f = f := by unfold rF; rw [if_pos hh]
    rw [e1, e2, e3]
    exact ⟨rfl, hK, h.next hK (by simp) (by simpa using c1) c2 hh⟩
  · refine (readBits_end B _ zs.length cap off n f w h.hlen h.hoff hn (by omega) h.c0 h.c1 h.c2 h.z1 h.z2).mono ?_
    rintro e w' ⟨rfl, hK, c1, c2⟩
    have e1 : rV zs off n = 0 := by unfold rV; rw [if_neg hh]
    have e2 : rO zs off n = zs.length * 8 := by unfold rO; rw [if_neg hh]
    have e3 : rF zs off n f = true := by unfold rF; rw [if_neg hh]
    rw [e1, e2, e3]
    exact ⟨rfl, hK, h.next hK (by simp) (by simpa using c1) c2 (Nat.le_refl _)⟩

theorem rd_one (zs : List Int) (p : Nat) : rd zs p 1 = bitAt zs p := by simp [rd]

theorem readBit_u (B G : Nat) (zs : List Int) (cap off : Nat) (f : Bool) (w : World) (h : Rdr B G zs cap off f w) (bv : Bool) (hbv : bv = decide (rV zs off 1 = 1)) :
    Calls Yba.prog 8 #[.pointer (some ⟨B, 0, none⟩)] w fun e w' => e = .returned (.bool bv) ∧ Kept B [1, 2] w w' ∧ Rdr B G zs cap (rO zs off 1) (rF zs off 1 f) w' := by
  subst hbv
  by_cases hh : off + 1 ≤ zs.length * 8
  · have e1 : rV zs off 1 = bitAt zs off := by unfold rV; rw [if_pos hh, rd_one]
    have e2 : rO zs off 1 = off + 1 := by unfold rO; rw [if_pos hh]
    have e3 : rF zs off 1 f = f := by unfold rF; rw [if_pos hh]
    refine (readBit_in B G zs.length cap zs off f w h.hlen (by omega) h.byte h.row h.c0 h.c1 h.c2 h.z1 _ rfl).mono ?_
    rintro e w' ⟨rfl, hK, c1, c2⟩
    rw [e1, e2, e3]
    exact ⟨rfl, hK, h.next hK (by simp) (by simpa using c1) c2 hh⟩
  · have e1 : rV zs off 1 = 0 := by unfold rV; rw [if_neg hh]
    have e2 : rO zs off 1 = zs.length * 8 := by unfold rO; rw [if_neg hh]
    have e3 : rF zs off 1 f = true := by unfold rF; rw [if_neg hh]
    have ho : (off : Int) = (zs.length : Int) * 8 := by have := h.hoff; omega
    refine (readBit_end B _ zs.length cap off f w h.hlen ho h.c0 h.c1 h.c2 h.z1 h.z2).mono ?_
    rintro e w' ⟨rfl, hK, c1, c2⟩
    rw [e1, e2, e3]
    exact ⟨rfl, hK, h.next hK (by simp) (by simpa using c1) c2 (Nat.le_refl _)⟩
end Go.Proofs.Ybulkcmcu
