import Derived.Test.YbulkcmdiSortE
namespace Go.Proofs.Ybulkcmdi
open Go.RowKit
set_option linter.unusedVariables false
set_option linter.unusedSimpArgs false

theorem symMerge_u (LT : Int → Int → Prop) (tr : ∀ x y z, LT x y → LT y z → LT x z) (lt : Int → Int → Bool) (l1 l2 : Value) (sf : Nat) (s1 s2 : Value) (V N : Nat) (hN : N ≤ 100000) (hsw : SwapOK sf s1 s2 V N) :
    ∀ (sz a m b : Nat) (f : Nat → Int) (w : World), b - a ≤ sz → a < m → m < b → b ≤ N → ArrF w V N f → V < w.heap.size → LessOK w V N l1 l2 lt → (∀ k, 0 ≤ f k ∧ f k < 256) → SortedOn LT f a m → SortedOn LT f m b → Cross LT lt f a m b →
      Calls Yba.prog 40 #[pairV l1 l2 sf s1 s2, .int .i64 (a : Int), .int .i64 (m : Int), .int .i64 (b : Int)] w fun e w' => SmPost LT V N f a b w e w' := by
  intro sz
  induction sz with
  | zero => intro a m b f w h1 h2 h3; omega
  | succ n ih =>
    intro a m b f w hsz ham hmb hbN hA hV hl hby hs1 hs2 hc
    by_cases h1 : m = a + 1
    · exact sm_left1 LT tr lt l1 l2 sf s1 s2 V N f a m b w hN hsw h1 hmb hbN hA hV hl hby hs2 hc
    by_cases h2 : b = m + 1
    · exact sm_right1 LT tr lt l1 l2 sf s1 s2 V N f a m b w hN hsw (by omega) h2 hbN hA hV hl hby hs1 hc
    have ih' := fun (a' m' b' : Nat) (f' : Nat → Int) (w' : World) (h : b' - a' < b - a) => ih a' m' b' f' w' (by omega)
    by_cases hmid : (a + b) / 2 < m
    · exact sm_gen LT tr lt l1 l2 sf s1 s2 V N f a m b w hN hsw (by omega) (by omega) hbN hA hV hl hby hs1 hs2 hc ih' ((a + b) / 2) ((a + b) / 2 + m - b) ((a + b) / 2) (by omega) (.inl ⟨by omega, by omega, rfl⟩)
    · exact sm_gen LT tr lt l1 l2 sf s1 s2 V N f a m b w hN hsw (by omega) (by omega) hbN hA hV hl hby hs1 hs2 hc ih' ((a + b) / 2) a m (by omega) (.inr ⟨by omega, rfl, rfl⟩)

/-- What 'less' of a later and an earlier element says. -/
def CrossAll (LT : Int → Int → Prop) (lt : Int → Int → Bool) (f : Nat → Int) (a b : Nat) : Prop := ∀ i j, a ≤ i → i < j → j < b → (lt (f j) (f i) = true → LT (f j) (f i)) ∧ (lt (f j) (f i) = false → LT (f i) (f j))

/-- The outer loop's relation: [a, i) is sorted. -/
structure InsO (LT : Int → Int → Prop) (lt : Int → Int → Bool) (f g : Nat → Int) (a i b : Nat) : Prop where
  mrg : Merged LT f g a i
  byt : ∀ k, 0 ≤ g k ∧ g k < 256
  crs : ∀ p, a ≤ p → p < i → i < b → (lt (g i) (g p) = true → LT (g i) (g p)) ∧ (lt (g i) (g p) = false → LT (g p) (g i))
theorem InsO.start {LT : Int → Int → Prop} {lt : Int → Int → Bool} {f : Nat → Int} {a b : Nat} (hb : ∀ k, 0 ≤ f k ∧ f k < 256) (hc : CrossAll LT lt f a b) : InsO LT lt f f a (a + 1) b :=
  ⟨Merged.of (SameOn.refl _ _ _) (fun i j x y z => by omega), hb, fun p x y z => hc p (a + 1) x y z⟩
theorem InsO.next {LT : Int → Int → Prop} (tr : ∀ x y z, LT x y → LT y z → LT x z) {lt : Int → Int → Bool} {f g : Nat → Int} {a i j b : Nat} (hc : CrossAll LT lt f a b) (h : InsO LT lt f g a i b) (hib : i < b) (haj : a ≤ j) (hji : j ≤ i)
    (h1 : j = a ∨ lt (g i) (g (j - 1)) = false) (h2 : j = i ∨ lt (g i) (g j) = true) : InsO LT lt f (rot g j i (i + 1)) a (i + 1) b := by
  have hm := merge_right1 tr g a j i lt haj hji h.mrg.srt (fun p q x y z u => by rw [show q = i by omega]; exact h.crs p x y hib) h1 h2
  have hsame : SameOn f (rot g j i (i + 1)) a (i + 1) := (h.mrg.same.widen (Nat.le_refl _) (by omega)).trans hm.same
  refine ⟨Merged.of hsame hm.srt, byt_rot _ _ _ h.byt, fun p x y z => ?_⟩
  obtain ⟨p', a1, b1, e1⟩ := hsame.from_ p x y
  rw [e1, hsame.out (i + 1) (by omega)]
  exact hc p' (i + 1) a1 b1 z

set_option maxHeartbeats 3200000 in
set_option maxRecDepth 100000 in
theorem insSort_u (LT : Int → Int → Prop) (tr : ∀ x y z, LT x y → LT y z → LT x z) (lt : Int → Int → Bool) (l1 l2 : Value) (sf : Nat) (s1 s2 : Value) (V N : Nat) (f : Nat → Int) (a b : Nat) (w : World) (hN : N ≤ 100000) (hsw : SwapOK sf s1 s2 V N) (hab : a < b) (hbN : b ≤ N)
    (hA : ArrF w V N f) (hV : V < w.heap.size) (hl : LessOK w V N l1 l2 lt) (hby : ∀ k, 0 ≤ f k ∧ f k < 256) (hc : CrossAll LT lt f a b) :
    Calls Yba.prog 39 #[pairV l1 l2 sf s1 s2, .int .i64 (a : Int), .int .i64 (b : Int)] w fun e w' => SmPost LT V N f a b w e w' := by
  have HS : Hid (SwapOK sf s1 s2 V N) := hsw
  have HL : Hid (LessOK w V N l1 l2 lt) := hl
  have HC : Hid (CrossAll LT lt f a b) := hc
  have hSA : Srt w V N f (w.alloc (pairO l1 l2 sf s1 s2)) := (Srt.start hA hV).alloc _
  have hI0 : InsO LT lt f f a (a + 1) b := InsO.start hby hc
  have hsz : (w.alloc (pairO l1 l2 sf s1 s2)).heap.size = w.heap.size + 1 := by simp
  have cc0 : (w.alloc (pairO l1 l2 sf s1 s2)).cell? ⟨w.heap.size, 0, none⟩ = some (.func (.func 22) #[] #[l1, l2]) := World.cell?_alloc_new _ _ _ _
  have cc1 : (w.alloc (pairO l1 l2 sf s1 s2)).cell? ⟨w.heap.size, 1, none⟩ = some (.func (.func sf) #[] #[s1, s2]) := World.cell?_alloc_new _ _ _ _
  clear hsw hl hby hc
  go_enter Yba.func39, Yba.ntmps39
  go_wp2
  go_loopw [6] (fun ii wr => ∃ (i : Nat) (g : Nat → Int), a + 1 ≤ i ∧ i ≤ b ∧ ii = .int .i64 (i : Int) ∧ Srt w V N g wr ∧ InsO LT lt f g a i b ∧ wr.cell? ⟨w.heap.size, 0, none⟩ = some (.func (.func 22) #[] #[l1, l2]) ∧ wr.cell? ⟨w.heap.size, 1, none⟩ = some (.func (.func sf) #[] #[s1, s2])) (fun ii _ => b - (intOf ii).toNat)
  case atStart => exact ⟨a + 1, f, Nat.le_refl _, by omega, by go_num, hSA, hI0, cc0, cc1⟩
  case round =>
    obtain ⟨i, g, hai, hib', rfl, hSg, hI, d0', d1'⟩ := hrel
    have HI : Hid (InsO LT lt f g a i b) := hI
    by_cases hib : i < b
    · have hSj : Srt w V N (rot g i i (i + 1)) wr := by rw [rot_none_l]; exact hSg
      clear hI hSg hSA hI0 cc0 cc1
      go_wp2
      go_loopw [7] (fun jj wr => ∃ j : Nat, a ≤ j ∧ j ≤ i ∧ jj = .int .i64 (j : Int) ∧ Srt w V N (rot g j i (i + 1)) wr ∧ (j = i ∨ lt (g i) (g j) = true) ∧ wr.cell? ⟨w.heap.size, 0, none⟩ = some (.func (.func 22) #[] #[l1, l2]) ∧ wr.cell? ⟨w.heap.size, 1, none⟩ = some (.func (.func sf) #[] #[s1, s2])) (fun jj _ => (intOf jj).toNat)
      case atStart => exact ⟨i, by omega, Nat.le_refl _, rfl, hSj, .inl rfl, d0', d1'⟩
      case round =>
        obtain ⟨j, haj, hji, rfl, hS, j2, d0, d1⟩ := hrel
        have J2 := (show Hid _ from j2)
        clear j2 hSj d0' d1'
        by_cases hja : a < j
        · have v1 : rot g j i (i + 1) j = g i := by unfold rot; rw [if_pos (by omega)]; congr 1; omega
          have v2 : rot g j i (i + 1) (j - 1) = g (j - 1) := by unfold rot; rw [if_neg (by omega), if_neg (by omega)]
          have key := HL.out _ _ hS (byt_rot _ _ _ HI.out.byt) j (j - 1) (by omega) (by omega)
          rw [v1, v2] at key
          obtain ⟨B, hBB⟩ : ∃ B : Nat, j - 1 = B := ⟨_, rfl⟩
          have hA1 : (j : Int) - 1 = (B : Int) := by omega
          have szD : w.heap.size < wr.heap.size := World.block_lt_of_cell? _ _ d0
          have HS' := (show Hid _ from hS)
          cases hle : lt (g i) (g (j - 1))
          · rw [hle, hBB] at key
            have hI2 := InsO.next tr HC.out HI.out hib haj hji (.inr hle) J2.out
            have HI2 := (show Hid _ from hI2)
            have HLE := (show Hid _ from hle)
            clear hle hI2 v1 v2 hS hBB
            go_wp2_with fail
            refine key.mono ?_
            rintro e w2 ⟨rfl, q2, rfl⟩
            have hS2 := (show Srt w V N (rot g j i (i + 1)) wr from HS'.out).drewN q2
            clear key
            go_wp2
            go_roundw
            case rel => exact ⟨i + 1, _, by omega, by omega, by go_num, hS2, HI2.out, by simpa using d0, by simpa using d1⟩
            case measure => simp [intOf]; omega
          · rw [hle, hBB] at key
            have HLE := (show Hid _ from hle)
            have hdown := rot_down g i j (by omega) hji
            have HD := (show Hid _ from hdown)
            have HBB := (show Hid _ from hBB)
            clear hle v1 v2 hS hdown
            go_wp2_with fail
            refine key.mono ?_
            rintro e w2 ⟨rfl, q2, rfl⟩
            have hS2 := (show Srt w V N (rot g j i (i + 1)) wr from HS'.out).drewN q2
            have hrun := HS.out (wr.drewN q2) _ hS2.arr j B (by omega) (by omega)
            have hnext := hS2.swap j B (by omega) (by omega)
            have hd : swp (rot g j i (i + 1)) j B = rot g B i (i + 1) := by rw [← HBB.out]; exact HD.out
            rw [hd] at hnext
            have k0 : (wr.drewN q2).cell? ⟨w.heap.size, 0, none⟩ = some (.func (.func 22) #[] #[l1, l2]) := by simpa using d0
            have k1 : (wr.drewN q2).cell? ⟨w.heap.size, 1, none⟩ = some (.func (.func sf) #[] #[s1, s2]) := by simpa using d1
            generalize hW2 : wr.drewN q2 = W2 at *
            generalize hR1 : rot g j i (i + 1) B = r1 at *
            generalize hR2 : rot g j i (i + 1) j = r2 at *
            have k0' : ((W2.setCell ⟨V, j, none⟩ (.int .u8 r1)).setCell ⟨V, B, none⟩ (.int .u8 r2)).cell? ⟨w.heap.size, 0, none⟩ = some (.func (.func 22) #[] #[l1, l2]) := by
              rw [World.cell?_setCell_other _ _ _ _ (by simp <;> omega), World.cell?_setCell_other _ _ _ _ (by simp <;> omega)]; exact k0
            have k1' : ((W2.setCell ⟨V, j, none⟩ (.int .u8 r1)).setCell ⟨V, B, none⟩ (.int .u8 r2)).cell? ⟨w.heap.size, 1, none⟩ = some (.func (.func sf) #[] #[s1, s2]) := by
              rw [World.cell?_setCell_other _ _ _ _ (by simp <;> omega), World.cell?_setCell_other _ _ _ _ (by simp <;> omega)]; exact k1
            have HN := (show Hid _ from hnext)
            have K0 := (show Hid _ from k0')
            have K1 := (show Hid _ from k1')
            clear hnext hd hS2 key d0 d1 k0' k1' hW2 hR1 hR2 hBB
            go_wp2
            go_roundw
            case rel => exact ⟨B, by have := HBB.out; omega, by have := HBB.out; omega, rfl, HN.out, .inr (by rw [← HBB.out]; exact HLE.out), K0.out, K1.out⟩
            case measure => have := HBB.out; simp [intOf]; omega
        · have hja' : j = a := by omega
          have hI2 := InsO.next tr HC.out HI.out hib haj hji (.inl hja') J2.out
          have HI2 := (show Hid _ from hI2)
          have hjI : ¬ ((a : Int) < j) := by omega
          have HS' := (show Hid _ from hS)
          clear hI2 hja' hja hS
          go_wp2
          go_roundw
          case rel => exact ⟨i + 1, _, by omega, by omega, by go_num, HS'.out, HI2.out, d0, d1⟩
          case measure => simp [intOf]; omega
    · obtain rfl : i = b := by omega
      have HR : Hid (SmPost LT V N f a i w (.returned (.tuple #[])) wr) := ⟨rfl, g, hSg, hI.byt, hI.mrg⟩
      clear hI hSg hSA hI0
      go_wp2
      go_end0
      exact ⟨rfl, HR.out.2⟩
end Go.Proofs.Ybulkcmdi
