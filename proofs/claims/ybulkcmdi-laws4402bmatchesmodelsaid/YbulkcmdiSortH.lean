import Derived.Test.YbulkcmdiSortG
namespace Go.Proofs.Ybulkcmdi
open Go.RowKit
set_option linter.unusedVariables false
set_option linter.unusedSimpArgs false

set_option maxRecDepth 100000 in
theorem ins_none (l1 l2 : Value) (sf : Nat) (s1 s2 : Value) (a : Nat) (w : World) (ha : a ≤ 100000) :
    Calls Yba.prog 39 #[pairV l1 l2 sf s1 s2, .int .i64 (a : Int), .int .i64 (a : Int)] w fun e w' => e = .returned (.tuple #[]) ∧ w' = w.alloc (pairO l1 l2 sf s1 s2) := by
  go_enter Yba.func39, Yba.ntmps39
  go_wp2
  refine wp_loop_rounds 1 ?_
  rw [rounds_succ]
  go_wp2
  go_end0
  exact ⟨rfl, rfl⟩

def Bsz (bs : Nat) : Prop := bs = 20 ∨ bs = 40 ∨ bs = 80 ∨ bs = 160 ∨ bs = 320
theorem Bsz.mult {bs : Nat} (h : Bsz bs) (hlt : bs < 256) : Mult bs 0 := by
  rcases h with rfl | rfl | rfl | rfl | rfl
  · exact .inl ⟨rfl, rfl⟩
  · exact .inr (.inl ⟨rfl, rfl⟩)
  · exact .inr (.inr (.inl ⟨rfl, rfl⟩))
  · exact .inr (.inr (.inr ⟨rfl, rfl⟩))
  · omega
theorem Bsz.next {bs : Nat} (h : Bsz bs) (hlt : bs < 256) : Bsz (2 * bs) := by unfold Bsz at *; omega
theorem Bsz.bd {bs : Nat} (h : Bsz bs) : 20 ≤ bs ∧ bs ≤ 320 := by unfold Bsz at h; omega
theorem Inv2.blk_all {LT : Int → Int → Prop} {g : Nat → Int} {bs n : Nat} (I : Inv2 LT g bs n n) : Blk LT g (2 * bs) n := ⟨I.s1, I.o1⟩

/-- What stable_func leaves: the row sorted by LT. -/
def StPost (LT : Int → Int → Prop) (V N : Nat) (f : Nat → Int) (w : World) (e : Ending) (w' : World) : Prop := e = .returned (.tuple #[]) ∧ ∃ h, Srt w V N h w' ∧ (∀ k, 0 ≤ h k ∧ h k < 256) ∧ Merged LT f h 0 N

/-- The state between two steps: the pair's block D, the row. -/
structure Stt (w : World) (V N : Nat) (l1 l2 : Value) (sf : Nat) (s1 s2 : Value) (f g : Nat → Int) (wr : World) : Prop where
  srt : Srt w V N g wr
  byt : ∀ k, 0 ≤ g k ∧ g k < 256
  same : SameOn f g 0 N
  c0 : wr.cell? ⟨w.heap.size, 0, none⟩ = some (.func (.func 22) #[] #[l1, l2])
  c1 : wr.cell? ⟨w.heap.size, 1, none⟩ = some (.func (.func sf) #[] #[s1, s2])
theorem Stt.next {LT : Int → Int → Prop} {w : World} {V N : Nat} {l1 l2 : Value} {sf : Nat} {s1 s2 : Value} {f g h : Nat → Int} {wr w2 : World} {a b : Nat} (hV : V < w.heap.size) (S : Stt w V N l1 l2 sf s1 s2 f g wr) (t : Srt wr V N h w2) (hb : ∀ k, 0 ≤ h k ∧ h k < 256) (m : Merged LT g h a b) (hbN : b ≤ N) : Stt w V N l1 l2 sf s1 s2 f h w2 := by
  have szD : w.heap.size < wr.heap.size := World.block_lt_of_cell? _ _ S.c0
  have hDV : w.heap.size ≠ V := by omega
  exact ⟨S.srt.rebase t, hb, S.same.trans (m.same.widen (Nat.zero_le _) hbN), (t.cell (p := ⟨w.heap.size, 0, none⟩) szD hDV).trans S.c0, (t.cell (p := ⟨w.heap.size, 1, none⟩) szD hDV).trans S.c1⟩

set_option maxHeartbeats 6400000 in
set_option maxRecDepth 100000 in
theorem stable_u (LT : Int → Int → Prop) (tr : ∀ x y z, LT x y → LT y z → LT x z) (lt : Int → Int → Bool) (ag : Agree LT lt) (l1 l2 : Value) (sf : Nat) (s1 s2 : Value) (V N : Nat) (f : Nat → Int) (w : World) (hN : N ≤ 256) (hsw : SwapOK sf s1 s2 V N)
    (hA : ArrF w V N f) (hV : V < w.heap.size) (hl : LessOK w V N l1 l2 lt) (hby : ∀ k, 0 ≤ f k ∧ f k < 256) (hasc : ∀ i j, i < j → j < N → f i < f j) :
    Calls Yba.prog 27 #[pairV l1 l2 sf s1 s2, .int .i64 (N : Int)] w fun e w' => StPost LT V N f w e w' := by
  have HS : Hid (SwapOK sf s1 s2 V N) := hsw
  have HL : Hid (LessOK w V N l1 l2 lt) := hl
  have HA : Hid (Agree LT lt) := ag
  have HT : Hid (∀ x y z, LT x y → LT y z → LT x z) := tr
  have HAS : Hid (∀ i j, i < j → j < N → f i < f j) := hasc
  have hS0 : Stt w V N l1 l2 sf s1 s2 f f (w.alloc (pairO l1 l2 sf s1 s2)) := ⟨(Srt.start hA hV).alloc _, hby, SameOn.refl _ _ _, World.cell?_alloc_new _ _ _ _, World.cell?_alloc_new _ _ _ _⟩
  have hI0 : Inv1 LT f f 0 N := Inv1.start hasc
  clear hsw hl hby ag tr hasc
  go_enter Yba.func27, Yba.ntmps27
  go_wp2
  go_loopw [5, 6] (fun aa bb wr => ∃ (a : Nat) (g : Nat → Int), a % 20 = 0 ∧ a ≤ N ∧ aa = .int .i64 (a : Int) ∧ bb = .int .i64 ((a : Int) + 20) ∧ Stt w V N l1 l2 sf s1 s2 f g wr ∧ Inv1 LT f g a N) (fun aa _ _ => N - (intOf aa).toNat)
  case atStart => exact ⟨0, f, rfl, Nat.zero_le _, rfl, rfl, hS0, hI0⟩
  case round =>
    obtain ⟨a, g, ha20, haN, rfl, rfl, hS, hI⟩ := hrel
    have HA20 : Hid (a % 20 = 0) := ha20
    have HST : Hid (Stt w V N l1 l2 sf s1 s2 f g wr) := hS
    have HI : Hid (Inv1 LT f g a N) := hI
    have d0 := hS.c0
    have d1 := hS.c1
    clear ha20 hS hI hS0 hI0
    by_cases hle : a + 20 ≤ N
    · obtain ⟨b, hb⟩ : ∃ b : Nat, (a : Int) + 20 = b := ⟨a + 20, by omega⟩
      have hbe : b = a + 20 := by omega
      have key := insSort_u LT HT.out lt l1 l2 sf s1 s2 V N g a b _ (by omega) HS.out (by omega) (by omega) HST.out.srt.arr HST.out.srt.lt (HL.out.rebase HST.out.srt) HST.out.byt (HI.out.crossAll HA.out HAS.out (by omega))
      have hbI : (b : Int) ≤ N := by omega
      have HBE := (show Hid _ from hbe)
      clear hbe
      go_wp2_with fail
      refine key.mono ?_
      rintro e w2 ⟨rfl, h, t, y, mm⟩
      have hS4 := HST.out.next hV t y mm (by omega)
      have hI4 := HI.out.next HA20.out (by omega) (by omega) (by omega) (.inl HBE.out) mm
      clear key t y mm d0 d1
      go_wp2
      go_roundw
      case rel => exact ⟨b, h, by have := HA20.out; have := HBE.out; omega, by omega, rfl, by congr 1, hS4, hI4⟩
      case measure => simp [intOf]; omega
    · have hleI : ¬ ((a : Int) + 20 ≤ N) := by omega
      by_cases haN' : a < N
      · have key := insSort_u LT HT.out lt l1 l2 sf s1 s2 V N g a N _ (by omega) HS.out haN' (by omega) HST.out.srt.arr HST.out.srt.lt (HL.out.rebase HST.out.srt) HST.out.byt (HI.out.crossAll HA.out HAS.out (by omega))
        go_wp2_with fail
        refine key.mono ?_
        rintro e w2 ⟨rfl, g1, t, y, mm⟩
        have hS1 := HST.out.next hV t y mm (by omega)
        have hI1 := HI.out.next HA20.out (by omega) (by omega) (by omega) (.inr rfl) mm
        clear key t y mm d0 d1
        have hB1 := hI1.blk
        clear hI1
        go_wp2
        go_loopw [4] (fun bb wr => ∃ (bs : Nat) (g : Nat → Int), Bsz bs ∧ bb = .int .i64 (bs : Int) ∧ Stt w V N l1 l2 sf s1 s2 f g wr ∧ Blk LT g bs N) (fun bb _ => 320 - (intOf bb).toNat)
        case atStart => exact ⟨20, _, .inl rfl, rfl, hS1, hB1⟩
        case round =>
          obtain ⟨bs, g2, hbs, rfl, hS, hB⟩ := hrel
          have hbd := hbs.bd
          have HBS : Hid (Bsz bs) := hbs
          clear hbs hS1 hB1
          by_cases hlt : bs < N
          · have hI2 : Inv2 LT g2 bs 0 N := Inv2.start (HBS.out.mult (by omega)) hB
            clear hB
            have h2b : 2 * (bs : Int) = ((2 * bs : Nat) : Int) := by omega
            clear h2b
            go_wp2
            go_loopw [5, 6] (fun aa bb wr => ∃ (a : Nat) (g : Nat → Int), Mult bs a ∧ a ≤ N ∧ aa = .int .i64 (a : Int) ∧ bb = .int .i64 ((a : Int) + 2 * bs) ∧ Stt w V N l1 l2 sf s1 s2 f g wr ∧ Inv2 LT g bs a N) (fun aa _ _ => N - (intOf aa).toNat)
            case atStart => exact ⟨0, g2, HBS.out.mult (by omega), Nat.zero_le _, rfl, by simp, hS, hI2⟩
            case round =>
              obtain ⟨a, g3, hmu, haN, rfl, rfl, hS3, hI3⟩ := hrel
              have HMU : Hid (Mult bs a) := hmu
              have HS3 : Hid (Stt w V N l1 l2 sf s1 s2 f g3 wr) := hS3
              have HI3 : Hid (Inv2 LT g3 bs a N) := hI3
              have d0 := hS3.c0
              have d1 := hS3.c1
              clear hmu hS hI2 hS3 hI3
              by_cases hle : a + 2 * bs ≤ N
              · obtain ⟨b, hb⟩ : ∃ b : Nat, (a : Int) + 2 * bs = b := ⟨a + 2 * bs, by omega⟩
                obtain ⟨m, hm⟩ : ∃ m : Nat, (a : Int) + bs = m := ⟨a + bs, by omega⟩
                have hbe : b = a + 2 * bs := by omega
                have hme : m = a + bs := by omega
                have hc := HI3.out.cross (b := b) HA.out HMU.out (by omega) (by omega)
                have hl := HI3.out.sorted_l HMU.out (by omega)
                have hr := HI3.out.sorted_r (b := b) HMU.out (by omega) (by omega)
                rw [← hme] at hc hl hr
                have key := symMerge_u LT HT.out lt l1 l2 sf s1 s2 V N (by omega) HS.out N a m b g3 _ (by omega) (by omega) (by omega) (by omega) HS3.out.srt.arr HS3.out.srt.lt (HL.out.rebase HS3.out.srt) HS3.out.byt hl hr hc
                have hbI : (b : Int) ≤ N := by omega
                have HBE := (show Hid _ from hbe)
                clear hbe hme hc hl hr
                go_wp2_with fail
                refine key.mono ?_
                rintro e w2 ⟨rfl, h, t, y, mm⟩
                have hS4 := HS3.out.next hV t y mm (by omega)
                have hI4 := HI3.out.next HMU.out (by omega) (by have := HBE.out; omega) (by omega) (.inl HBE.out) mm
                clear key t y mm d0 d1
                go_wp2
                go_roundw
                case rel => exact ⟨b, h, by rw [HBE.out]; exact HMU.out.next, by omega, rfl, by congr 1, hS4, hI4⟩
                case measure => simp [intOf]; omega
              · have hleI : ¬ ((a : Int) + 2 * bs ≤ N) := by omega
                obtain ⟨m, hm⟩ : ∃ m : Nat, (a : Int) + bs = m := ⟨a + bs, by omega⟩
                have hme : m = a + bs := by omega
                by_cases hmN : m < N
                · have hc := HI3.out.cross (b := N) HA.out HMU.out (by omega) (by omega)
                  have hl := HI3.out.sorted_l HMU.out (by omega)
                  have hr := HI3.out.sorted_r (b := N) HMU.out (by omega) (by omega)
                  rw [← hme] at hc hl hr
                  have key := symMerge_u LT HT.out lt l1 l2 sf s1 s2 V N (by omega) HS.out N a m N g3 _ (by omega) (by omega) (by omega) (by omega) HS3.out.srt.arr HS3.out.srt.lt (HL.out.rebase HS3.out.srt) HS3.out.byt hl hr hc
                  clear hme hc hl hr
                  go_wp2_with fail
                  refine key.mono ?_
                  rintro e w2 ⟨rfl, h, t, y, mm⟩
                  have hS4 := HS3.out.next hV t y mm (by omega)
                  have hI4 := HI3.out.next HMU.out (by omega) (by omega) (by omega) (.inr rfl) mm
                  have hB4 := hI4.blk_all
                  clear key t y mm d0 d1 hI4
                  go_wp2
                  go_roundw
                  case rel => exact ⟨2 * bs, h, HBS.out.next (by omega), by congr 1; omega, hS4, hB4⟩
                  case measure => simp [intOf]; omega
                · have hB4 := HI3.out.blk HMU.out (by omega)
                  have hmI : ¬ ((m : Int) < N) := by omega
                  clear hme
                  go_wp2
                  go_roundw
                  case rel => exact ⟨2 * bs, g3, HBS.out.next (by omega), by congr 1; omega, HS3.out, hB4⟩
                  case measure => simp [intOf]; omega
          · have hso := hB.sorted (by omega) (by omega)
            have HR : Hid (StPost LT V N f w (.returned (.tuple #[])) wr) := ⟨rfl, g2, hS.srt, hS.byt, Merged.of hS.same hso⟩
            clear hso hS hB
            go_wp2
            go_end0
            exact ⟨rfl, HR.out.2⟩
      · obtain rfl : N = a := by omega
        have key := ins_none l1 l2 sf s1 s2 N wr (by omega)
        go_wp2_with fail
        refine key.mono ?_
        rintro e w2 ⟨rfl, rfl⟩
        have hS1 : Stt w V N l1 l2 sf s1 s2 f g (wr.alloc (pairO l1 l2 sf s1 s2)) := by
          have S := HST.out
          have szD : w.heap.size < wr.heap.size := World.block_lt_of_cell? _ _ S.c0
          have hf := Fr.alloc (fun _ => False) wr (pairO l1 l2 sf s1 s2)
          exact ⟨S.srt.alloc _, S.byt, S.same, (hf.cell (p := ⟨w.heap.size, 0, none⟩) szD (fun h => h)).trans S.c0, (hf.cell (p := ⟨w.heap.size, 1, none⟩) szD (fun h => h)).trans S.c1⟩
        have hI1 := HI.out
        clear key d0 d1
        generalize hW2 : wr.alloc (pairO l1 l2 sf s1 s2) = W2 at *
        clear hW2
        have hB1 := hI1.blk
        clear hI1
        go_wp2
        go_loopw [4] (fun bb wr => ∃ (bs : Nat) (g : Nat → Int), Bsz bs ∧ bb = .int .i64 (bs : Int) ∧ Stt w V N l1 l2 sf s1 s2 f g wr ∧ Blk LT g bs N) (fun bb _ => 320 - (intOf bb).toNat)
        case atStart => exact ⟨20, _, .inl rfl, rfl, hS1, hB1⟩
        case round =>
          obtain ⟨bs, g2, hbs, rfl, hS, hB⟩ := hrel
          have hbd := hbs.bd
          have HBS : Hid (Bsz bs) := hbs
          clear hbs hS1 hB1
          by_cases hlt : bs < N
          · have hI2 : Inv2 LT g2 bs 0 N := Inv2.start (HBS.out.mult (by omega)) hB
            clear hB
            have h2b : 2 * (bs : Int) = ((2 * bs : Nat) : Int) := by omega
            clear h2b
            go_wp2
            go_loopw [5, 6] (fun aa bb wr => ∃ (a : Nat) (g : Nat → Int), Mult bs a ∧ a ≤ N ∧ aa = .int .i64 (a : Int) ∧ bb = .int .i64 ((a : Int) + 2 * bs) ∧ Stt w V N l1 l2 sf s1 s2 f g wr ∧ Inv2 LT g bs a N) (fun aa _ _ => N - (intOf aa).toNat)
            case atStart => exact ⟨0, g2, HBS.out.mult (by omega), Nat.zero_le _, rfl, by simp, hS, hI2⟩
            case round =>
              obtain ⟨a, g3, hmu, haN, rfl, rfl, hS3, hI3⟩ := hrel
              have HMU : Hid (Mult bs a) := hmu
              have HS3 : Hid (Stt w V N l1 l2 sf s1 s2 f g3 wr) := hS3
              have HI3 : Hid (Inv2 LT g3 bs a N) := hI3
              have d0 := hS3.c0
              have d1 := hS3.c1
              clear hmu hS hI2 hS3 hI3
              by_cases hle : a + 2 * bs ≤ N
              · obtain ⟨b, hb⟩ : ∃ b : Nat, (a : Int) + 2 * bs = b := ⟨a + 2 * bs, by omega⟩
                obtain ⟨m, hm⟩ : ∃ m : Nat, (a : Int) + bs = m := ⟨a + bs, by omega⟩
                have hbe : b = a + 2 * bs := by omega
                have hme : m = a + bs := by omega
                have hc := HI3.out.cross (b := b) HA.out HMU.out (by omega) (by omega)
                have hl := HI3.out.sorted_l HMU.out (by omega)
                have hr := HI3.out.sorted_r (b := b) HMU.out (by omega) (by omega)
                rw [← hme] at hc hl hr
                have key := symMerge_u LT HT.out lt l1 l2 sf s1 s2 V N (by omega) HS.out N a m b g3 _ (by omega) (by omega) (by omega) (by omega) HS3.out.srt.arr HS3.out.srt.lt (HL.out.rebase HS3.out.srt) HS3.out.byt hl hr hc
                have hbI : (b : Int) ≤ N := by omega
                have HBE := (show Hid _ from hbe)
                clear hbe hme hc hl hr
                go_wp2_with fail
                refine key.mono ?_
                rintro e w2 ⟨rfl, h, t, y, mm⟩
                have hS4 := HS3.out.next hV t y mm (by omega)
                have hI4 := HI3.out.next HMU.out (by omega) (by have := HBE.out; omega) (by omega) (.inl HBE.out) mm
                clear key t y mm d0 d1
                go_wp2
                go_roundw
                case rel => exact ⟨b, h, by rw [HBE.out]; exact HMU.out.next, by omega, rfl, by congr 1, hS4, hI4⟩
                case measure => simp [intOf]; omega
              · have hleI : ¬ ((a : Int) + 2 * bs ≤ N) := by omega
                obtain ⟨m, hm⟩ : ∃ m : Nat, (a : Int) + bs = m := ⟨a + bs, by omega⟩
                have hme : m = a + bs := by omega
                by_cases hmN : m < N
                · have hc := HI3.out.cross (b := N) HA.out HMU.out (by omega) (by omega)
                  have hl := HI3.out.sorted_l HMU.out (by omega)
                  have hr := HI3.out.sorted_r (b := N) HMU.out (by omega) (by omega)
                  rw [← hme] at hc hl hr
                  have key := symMerge_u LT HT.out lt l1 l2 sf s1 s2 V N (by omega) HS.out N a m N g3 _ (by omega) (by omega) (by omega) (by omega) HS3.out.srt.arr HS3.out.srt.lt (HL.out.rebase HS3.out.srt) HS3.out.byt hl hr hc
                  clear hme hc hl hr
                  go_wp2_with fail
                  refine key.mono ?_
                  rintro e w2 ⟨rfl, h, t, y, mm⟩
                  have hS4 := HS3.out.next hV t y mm (by omega)
                  have hI4 := HI3.out.next HMU.out (by omega) (by omega) (by omega) (.inr rfl) mm
                  have hB4 := hI4.blk_all
                  clear key t y mm d0 d1 hI4
                  go_wp2
                  go_roundw
                  case rel => exact ⟨2 * bs, h, HBS.out.next (by omega), by congr 1; omega, hS4, hB4⟩
                  case measure => simp [intOf]; omega
                · have hB4 := HI3.out.blk HMU.out (by omega)
                  have hmI : ¬ ((m : Int) < N) := by omega
                  clear hme
                  go_wp2
                  go_roundw
                  case rel => exact ⟨2 * bs, g3, HBS.out.next (by omega), by congr 1; omega, HS3.out, hB4⟩
                  case measure => simp [intOf]; omega
          · have hso := hB.sorted (by omega) (by omega)
            have HR : Hid (StPost LT V N f w (.returned (.tuple #[])) wr) := ⟨rfl, g2, hS.srt, hS.byt, Merged.of hS.same hso⟩
            clear hso hS hB
            go_wp2
            go_end0
            exact ⟨rfl, HR.out.2⟩
end Go.Proofs.Ybulkcmdi
