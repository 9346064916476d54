import Derived.Test.YbulkcmcuWalkH
namespace Go.Proofs.Ybulkcmcu
open Go.RowKit
set_option linter.unusedVariables false
set_option linter.unusedSimpArgs false

/-- Of what lay in w nothing has turned but blocks P and F. -/
structure Kept2 (P F : Nat) (w w' : World) : Prop where
  os : w'.os = w.os
  tape : w'.tape = w.tape
  output : w'.output = w.output
  size : w.heap.size ≤ w'.heap.size
  block : ∀ k, k < w.heap.size → k ≠ P → k ≠ F → w'.heap[k]? = w.heap[k]?
  frozen : ∀ p : Addr, p.block < w.heap.size → w'.frozen? p = w.frozen? p

theorem Kept2.trans {P F : Nat} {a b c : World} (h : Kept2 P F a b) (k : Kept2 P F b c) : Kept2 P F a c :=
  ⟨k.os.trans h.os, k.tape.trans h.tape, k.output.trans h.output, Nat.le_trans h.size k.size, fun i hi hB hF => (k.block i (Nat.lt_of_lt_of_le hi h.size) hB hF).trans (h.block i hi hB hF),
   fun p hp => (k.frozen p (Nat.lt_of_lt_of_le hp h.size)).trans (h.frozen p hp)⟩
theorem Kept2.refl (P F : Nat) (w : World) : Kept2 P F w w := ⟨rfl, rfl, rfl, Nat.le_refl _, fun _ _ _ _ => rfl, fun _ _ => rfl⟩
theorem Kept2.of_kept {P F : Nat} {S : List Nat} {w w' : World} (h : Kept P S w w') : Kept2 P F w w' := ⟨h.os, h.tape, h.output, h.size, fun k hk h1 _ => h.block k hk h1, h.frozen⟩
theorem Kept2.of_kept' {P F : Nat} {S : List Nat} {w w' : World} (h : Kept F S w w') : Kept2 P F w w' := ⟨h.os, h.tape, h.output, h.size, fun k hk _ h1 => h.block k hk h1, h.frozen⟩
theorem Kept2.below {P F B : Nat} {w w' : World} (h : Kept2 P F w w') (hw : B ≤ w.heap.size) (hP : B ≤ P) (hF : B ≤ F) : Below B w w' :=
  ⟨h.os, h.tape, h.output, h.size, fun k hk => h.block k (by omega) (by omega) (by omega)⟩
theorem Kept2.far {P F : Nat} {w w' : World} (h : Kept2 P F w w') {p : Addr} (hp : p.block < w.heap.size) (h1 : p.block ≠ P) (h2 : p.block ≠ F) : w'.cell? p = w.cell? p := World.cell?_of_block (w := w) (h.block p.block hp h1 h2)

/-- The model's two variables, and the bytes. -/
structure Mdl (P F G : Nat) (zs : List Int) (p : Nat) (f : Bool) (w : World) : Prop where
  hlen : zs.length ≤ 1024
  byte : ∀ j, 0 ≤ zs.getD j 0 ∧ zs.getD j 0 < 256
  row : ∀ j, j < zs.length → w.cell? ⟨G, j, none⟩ = some (.int .u8 (zs.getD j 0))
  hG : G < w.heap.size
  hP : P < w.heap.size
  hF : F < w.heap.size
  neP : G ≠ P
  neF : G ≠ F
  ne : P ≠ F
  cP : w.cell? ⟨P, 0, none⟩ = some (.int .i64 p)
  cF : w.cell? ⟨F, 0, none⟩ = some (.bool f)
  zP : w.frozen? ⟨P, 0, none⟩ = false
  zF : w.frozen? ⟨F, 0, none⟩ = false
  hp : p ≤ zs.length * 8

theorem Mdl.next {P F G : Nat} {zs : List Int} {p p' : Nat} {f f' : Bool} {w w' : World} (h : Mdl P F G zs p f w) (hK : Kept2 P F w w') (cP : w'.cell? ⟨P, 0, none⟩ = some (.int .i64 p')) (cF : w'.cell? ⟨F, 0, none⟩ = some (.bool f')) (hp : p' ≤ zs.length * 8) : Mdl P F G zs p' f' w' :=
  ⟨h.hlen, h.byte, fun j hj => (hK.far (p := ⟨G, j, none⟩) h.hG h.neP h.neF).trans (h.row j hj), Nat.lt_of_lt_of_le h.hG hK.size, Nat.lt_of_lt_of_le h.hP hK.size, Nat.lt_of_lt_of_le h.hF hK.size, h.neP, h.neF, h.ne, cP, cF,
   (hK.frozen ⟨P, 0, none⟩ h.hP).trans h.zP, (hK.frozen ⟨F, 0, none⟩ h.hF).trans h.zF, hp⟩

theorem bread_u (P F G : Nat) (zs : List Int) (cap p n : Nat) (f : Bool) (w : World) (h : Mdl P F G zs p f w) (hn : n ≤ 64) :
    Calls Yba.prog 6 #[.slice (some ⟨G, 0, none⟩) zs.length cap, .pointer (some ⟨P, 0, none⟩), .pointer (some ⟨F, 0, none⟩), .int .i64 n] w fun e w' => e = .returned (.int .u64 (rV zs p n)) ∧ Kept2 P F w w' ∧ Mdl P F G zs (rO zs p n) (rF zs p n f) w' := by
  by_cases hh : p + n ≤ zs.length * 8
  · have e1 : rV zs p n = rd zs p n := by unfold rV; rw [if_pos hh]
    have e2 : rO zs p n = p + n := by unfold rO; rw [if_pos hh]
    have e3 : rF zs p n f = f := by unfold rF; rw [if_pos hh]
    refine (bread_in G P F zs.length cap zs p n w h.hlen hn hh h.byte h.row h.hG h.neP h.cP h.zP h.hP).mono ?_
    rintro e w' ⟨rfl, hK, c1⟩
    rw [e1, e2, e3]
    have hK2 : Kept2 P F w w' := Kept2.of_kept hK
    exact ⟨rfl, hK2, h.next hK2 (by simpa using c1) ((hK.far (p := ⟨F, 0, none⟩) h.hF (Ne.symm h.ne)).trans h.cF) hh⟩
  · have e1 : rV zs p n = 0 := by unfold rV; rw [if_neg hh]
    have e2 : rO zs p n = zs.length * 8 := by unfold rO; rw [if_neg hh]
    have e3 : rF zs p n f = true := by unfold rF; rw [if_neg hh]
    refine (bread_end P F (some ⟨G, 0, none⟩) zs.length cap p n f w h.hlen h.hp hn (by omega) h.cP h.cF h.zP h.zF h.ne).mono ?_
    rintro e w' ⟨rfl, rfl⟩
    rw [e1, e2, e3]
    have hK2 : Kept2 P F w ((w.setCell ⟨F, 0, none⟩ (.bool true)).setCell ⟨P, 0, none⟩ (.int .i64 (zs.length * 8))) :=
      (Kept2.of_kept' (S := [0]) ((Kept.refl _ _ _).setCell (by simp) _)).trans (Kept2.of_kept (S := [0]) ((Kept.refl _ _ _).setCell (by simp) _))
    refine ⟨rfl, hK2, h.next hK2 ?_ ?_ (Nat.le_refl _)⟩
    · rw [World.cell?_setCell_same _ _ _ (by rw [World.cell?_setCell_other _ _ _ _ (by have := h.ne; simp <;> omega)]; exact h.cP)]; simp
    · rw [World.cell?_setCell_other _ _ _ _ (by have := h.ne; simp <;> omega)]
      exact World.cell?_setCell_same _ _ _ h.cF
end Go.Proofs.Ybulkcmcu
