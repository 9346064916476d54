import Derived.Test.YbulkcmdiSortC
namespace Go.Proofs.Ybulkcmdi
open Go.RowKit
set_option linter.unusedVariables false
set_option linter.unusedSimpArgs false

/-- What is asked of 'less': function 22, bound to two values, in every world that the sort passes through. -/
def LessOK (w0 : World) (V N : Nat) (l1 l2 : Value) (lt : Int → Int → Bool) : Prop := ∀ (w : World) (f : Nat → Int), Srt w0 V N f w → (∀ k, 0 ≤ f k ∧ f k < 256) → ∀ i j : Nat, i < N → j < N →
  Calls Yba.prog 22 #[.int .i64 (i : Int), .int .i64 (j : Int), l1, l2] w fun e w' => e = .returned (.bool (lt (f i) (f j))) ∧ ∃ q, w' = w.drewN q
theorem LessOK.rebase {w0 w : World} {V N : Nat} {l1 l2 : Value} {lt : Int → Int → Bool} (h : LessOK w0 V N l1 l2 lt) {g : Nat → Int} (hs : Srt w0 V N g w) : LessOK w V N l1 l2 lt :=
  fun w' f hf => h w' f (hs.rebase hf)

/-- The pair of functions that the sort hands about. -/
abbrev pairV (l1 l2 : Value) (sf : Nat) (s1 s2 : Value) : Value := .agg #[.func (.func 22) #[] #[l1, l2], .func (.func sf) #[] #[s1, s2]]
abbrev pairO (l1 l2 : Value) (sf : Nat) (s1 s2 : Value) : Obj := .cells #[.func (.func 22) #[] #[l1, l2], .func (.func sf) #[] #[s1, s2]] 74

/-- What symMerge leaves. -/
def SmPost (LT : Int → Int → Prop) (V N : Nat) (f : Nat → Int) (a b : Nat) (w : World) (e : Ending) (w' : World) : Prop := e = .returned (.tuple #[]) ∧ ∃ h, Srt w V N h w' ∧ (∀ k, 0 ≤ h k ∧ h k < 256) ∧ Merged LT f h a b

set_option maxHeartbeats 3200000 in
set_option maxRecDepth 100000 in
theorem sm_left1 (LT : Int → Int → Prop) (tr : ∀ x y z, LT x y → LT y z → LT x z) (lt : Int → Int → Bool) (l1 l2 : Value) (sf : Nat) (s1 s2 : Value) (V N : Nat) (f : Nat → Int) (a m b : Nat) (w : World) (hN : N ≤ 100000) (hsw : SwapOK sf s1 s2 V N) (hm : m = a + 1) (hmb : m < b) (hbN : b ≤ N)
    (hA : ArrF w V N f) (hV : V < w.heap.size) (hl : LessOK w V N l1 l2 lt) (hby : ∀ k, 0 ≤ f k ∧ f k < 256) (hs : SortedOn LT f m b) (hc : Cross LT lt f a m b) :
    Calls Yba.prog 40 #[pairV l1 l2 sf s1 s2, .int .i64 (a : Int), .int .i64 (m : Int), .int .i64 (b : Int)] w fun e w' => SmPost LT V N f a b w e w' := by
  have HS : Hid (SwapOK sf s1 s2 V N) := hsw
  have HL : Hid (LessOK w V N l1 l2 lt) := hl
  have hfin : ∀ i, m ≤ i → i ≤ b → (i = m ∨ lt (f (i - 1)) (f a) = true) → (i = b ∨ lt (f i) (f a) = false) → ∀ w', Srt w V N (rot f a m i) w' → SmPost LT V N f a b w (.returned (.tuple #[])) w' := by
    intro i x1 x2 x3 x4 w' hw'
    subst hm
    exact ⟨rfl, _, hw', byt_rot _ _ _ hby, merge_left1 tr f a i b lt x1 x2 hs hc x3 x4⟩
  have HF := (show Hid _ from hfin)
  have hSA : Srt w V N f (w.alloc (pairO l1 l2 sf s1 s2)) := (Srt.start hA hV).alloc _
  have hsz : (w.alloc (pairO l1 l2 sf s1 s2)).heap.size = w.heap.size + 1 := by simp
  have cc0 : (w.alloc (pairO l1 l2 sf s1 s2)).cell? ⟨w.heap.size, 0, none⟩ = some (.func (.func 22) #[] #[l1, l2]) := World.cell?_alloc_new _ _ _ _
  have cc1 : (w.alloc (pairO l1 l2 sf s1 s2)).cell? ⟨w.heap.size, 1, none⟩ = some (.func (.func sf) #[] #[s1, s2]) := World.cell?_alloc_new _ _ _ _
  have hma : (m : Int) - a = 1 := by omega
  have HB : Hid (∀ k, 0 ≤ f k ∧ f k < 256) := hby
  have HM : Hid (m = a + 1) := hm
  clear hsw hl hfin hby hs hc hm
  go_enter Yba.func40, Yba.ntmps40
  go_wp2
  generalize hWA : w.alloc (pairO l1 l2 sf s1 s2) = WA at *
  go_loopw [8, 9] (fun ii jj wr => ∃ i j q : Nat, m ≤ i ∧ i ≤ j ∧ j ≤ b ∧ ii = .int .i64 (i : Int) ∧ jj = .int .i64 (j : Int) ∧ wr = WA.drewN q ∧ (i = m ∨ lt (f (i - 1)) (f a) = true) ∧ (j = b ∨ lt (f j) (f a) = false)) (fun ii jj _ => (intOf jj).toNat - (intOf ii).toNat)
  case atStart => exact ⟨m, b, 0, Nat.le_refl _, by omega, Nat.le_refl _, rfl, rfl, rfl, .inl rfl, .inl rfl⟩
  case round =>
    obtain ⟨i, j, q, hmi, hij, hjb, rfl, rfl, rfl, p1, p2⟩ := hrel
    by_cases hlt : i < j
    · obtain ⟨h, hh⟩ : ∃ h : Nat, ((i : Int) + j) / 2 = h := ⟨(i + j) / 2, by omega⟩
      have key := HL.out (WA.drewN q) f (hSA.drewN q) HB.out h a (by omega) (by omega)
      have c0 : (WA.drewN q).cell? ⟨w.heap.size, 0, none⟩ = some (.func (.func 22) #[] #[l1, l2]) := by simpa using cc0
      have P1 := (show Hid _ from p1)
      have P2 := (show Hid _ from p2)
      clear p1 p2
      cases hle : lt (f h) (f a)
      · rw [hle] at key
        have HLE := (show Hid _ from hle)
        clear hle
        go_wp2_with fail
        refine key.mono ?_
        rintro e w2 ⟨rfl, q2, rfl⟩
        go_wp2
        go_roundw
        case rel => exact ⟨i, h, q + q2, hmi, by omega, by omega, rfl, rfl, by simp, P1.out, .inr HLE.out⟩
        case measure => simp [intOf]; omega
      · rw [hle] at key
        have HLE := (show Hid _ from hle)
        clear hle
        go_wp2_with fail
        refine key.mono ?_
        rintro e w2 ⟨rfl, q2, rfl⟩
        go_wp2
        go_roundw
        case rel => exact ⟨h + 1, j, q + q2, by omega, by omega, hjb, by go_num, rfl, by simp, .inr (by rw [Nat.add_sub_cancel]; exact HLE.out), P2.out⟩
        case measure => simp [intOf]; omega
    · obtain rfl : i = j := by omega
      have P1 := (show Hid _ from p1)
      have P2 := (show Hid _ from p2)
      clear p1 p2 hlt
      have hSB : Srt w V N (rot f a m m) (WA.drewN q) := by rw [rot_none_r]; exact hSA.drewN q
      have cB : (WA.drewN q).cell? ⟨w.heap.size, 1, none⟩ = some (.func (.func sf) #[] #[s1, s2]) := by simpa using cc1
      have szA : (WA.drewN q).heap.size = w.heap.size + 1 := by simpa using hsz
      generalize hWB : WA.drewN q = WB at *
      clear hWB
      go_wp2
      go_loopw [11] (fun kk wr => ∃ t : Nat, a + t + 1 ≤ i ∧ kk = .int .i64 ((a + t : Nat) : Int) ∧ Srt w V N (rot f a m (m + t)) wr ∧ wr.cell? ⟨w.heap.size, 1, none⟩ = some (.func (.func sf) #[] #[s1, s2])) (fun kk _ => i - (intOf kk).toNat)
      case atStart => exact ⟨0, by have := HM.out; omega, rfl, hSB, cB⟩
      case round =>
        obtain ⟨t, ht, rfl, hS, hcw⟩ := hrel
        have hmm := HM.out
        by_cases hlt : a + t + 1 < i
        · have hrun := HS.out wr (rot f a m (m + t)) hS.arr (a + t) (a + t + 1) (by omega) (by omega)
          have hnext : Srt w V N (rot f a m (m + t + 1)) ((wr.setCell ⟨V, a + t, none⟩ (.int .u8 (rot f a m (m + t) (a + t + 1)))).setCell ⟨V, a + t + 1, none⟩ (.int .u8 (rot f a m (m + t) (a + t)))) := by
            have e := rot_up f a (m + t) (by omega)
            rw [← hmm, show m + t - 1 = a + t by omega, show m + t = a + t + 1 by omega] at e
            rw [show m + t + 1 = a + t + 1 + 1 by omega, ← e, show m + t = a + t + 1 by omega]
            have := hS.swap (a + t) (a + t + 1) (by omega) (by omega)
            rwa [show m + t = a + t + 1 by omega] at this
          have hc' : ((wr.setCell ⟨V, a + t, none⟩ (.int .u8 (rot f a m (m + t) (a + t + 1)))).setCell ⟨V, a + t + 1, none⟩ (.int .u8 (rot f a m (m + t) (a + t)))).cell? ⟨w.heap.size, 1, none⟩ = some (.func (.func sf) #[] #[s1, s2]) := by
            rw [World.cell?_setCell_other _ _ _ _ (by simp <;> omega), World.cell?_setCell_other _ _ _ _ (by simp <;> omega)]; exact hcw
          generalize hBB : a + t + 1 = B at *
          generalize hAA : a + t = A at *
          have HN := (show Hid _ from hnext)
          have HC' := (show Hid _ from hc')
          have HAA := (show Hid _ from hAA)
          have HBB := (show Hid _ from hBB)
          have hlI : (A : Int) < (i : Int) - 1 := by omega
          have hA1 : (A : Int) + 1 = (B : Int) := by omega
          clear hnext hc' hS hAA hmm hSA hSB hA hBB
          go_wp2
          go_roundw
          case rel => exact ⟨t + 1, by have := HAA.out; have := HBB.out; omega, by have := HAA.out; have := HBB.out; congr 1; omega, HN.out, HC'.out⟩
          case measure => have := HAA.out; have := HBB.out; simp [intOf]; omega
        · have hi : m + t = i := by omega
          rw [hi] at hS
          have HR := (show Hid _ from HF.out i hmi hjb P1.out P2.out _ hS)
          have hlI : ¬ (((a + t : Nat) : Int) < (i : Int) - 1) := by omega
          clear hi hmm hS
          go_wp2
          exact bodyPost_ret (results_none rfl _ _ _) rfl ⟨rfl, HR.out.2⟩

set_option maxHeartbeats 3200000 in
set_option maxRecDepth 100000 in
theorem sm_right1 (LT : Int → Int → Prop) (tr : ∀ x y z, LT x y → LT y z → LT x z) (lt : Int → Int → Bool) (l1 l2 : Value) (sf : Nat) (s1 s2 : Value) (V N : Nat) (f : Nat → Int) (a m b : Nat) (w : World) (hN : N ≤ 100000) (hsw : SwapOK sf s1 s2 V N) (ham : a + 1 < m) (hm : b = m + 1) (hbN : b ≤ N)
    (hA : ArrF w V N f) (hV : V < w.heap.size) (hl : LessOK w V N l1 l2 lt) (hby : ∀ k, 0 ≤ f k ∧ f k < 256) (hs : SortedOn LT f a m) (hc : Cross LT lt f a m b) :
    Calls Yba.prog 40 #[pairV l1 l2 sf s1 s2, .int .i64 (a : Int), .int .i64 (m : Int), .int .i64 (b : Int)] w fun e w' => SmPost LT V N f a b w e w' := by
  have HS : Hid (SwapOK sf s1 s2 V N) := hsw
  have HL : Hid (LessOK w V N l1 l2 lt) := hl
  have hfin : ∀ i, a ≤ i → i ≤ m → (i = a ∨ lt (f m) (f (i - 1)) = false) → (i = m ∨ lt (f m) (f i) = true) → ∀ w', Srt w V N (rot f i m b) w' → SmPost LT V N f a b w (.returned (.tuple #[])) w' := by
    intro i x1 x2 x3 x4 w' hw'
    subst hm
    exact ⟨rfl, _, hw', byt_rot _ _ _ hby, merge_right1 tr f a i m lt x1 x2 hs hc x3 x4⟩
  have HF := (show Hid _ from hfin)
  have hSA : Srt w V N f (w.alloc (pairO l1 l2 sf s1 s2)) := (Srt.start hA hV).alloc _
  have hsz : (w.alloc (pairO l1 l2 sf s1 s2)).heap.size = w.heap.size + 1 := by simp
  have cc0 : (w.alloc (pairO l1 l2 sf s1 s2)).cell? ⟨w.heap.size, 0, none⟩ = some (.func (.func 22) #[] #[l1, l2]) := World.cell?_alloc_new _ _ _ _
  have cc1 : (w.alloc (pairO l1 l2 sf s1 s2)).cell? ⟨w.heap.size, 1, none⟩ = some (.func (.func sf) #[] #[s1, s2]) := World.cell?_alloc_new _ _ _ _
  have hma : (((m : Int) - a) == 1) = false := by simp; omega
  have hmb : (b : Int) - m = 1 := by omega
  have HB : Hid (∀ k, 0 ≤ f k ∧ f k < 256) := hby
  have HM : Hid (b = m + 1) := hm
  clear hsw hl hfin hby hs hc hm
  go_enter Yba.func40, Yba.ntmps40
  go_wp2
  generalize hWA : w.alloc (pairO l1 l2 sf s1 s2) = WA at *
  go_loopw [12, 13] (fun ii jj wr => ∃ i j q : Nat, a ≤ i ∧ i ≤ j ∧ j ≤ m ∧ ii = .int .i64 (i : Int) ∧ jj = .int .i64 (j : Int) ∧ wr = WA.drewN q ∧ (i = a ∨ lt (f m) (f (i - 1)) = false) ∧ (j = m ∨ lt (f m) (f j) = true)) (fun ii jj _ => (intOf jj).toNat - (intOf ii).toNat)
  case atStart => exact ⟨a, m, 0, Nat.le_refl _, by omega, Nat.le_refl _, rfl, rfl, rfl, .inl rfl, .inl rfl⟩
  case round =>
    obtain ⟨i, j, q, hmi, hij, hjb, rfl, rfl, rfl, p1, p2⟩ := hrel
    by_cases hlt : i < j
    · obtain ⟨h, hh⟩ : ∃ h : Nat, ((i : Int) + j) / 2 = h := ⟨(i + j) / 2, by omega⟩
      have key := HL.out (WA.drewN q) f (hSA.drewN q) HB.out m h (by have := HM.out; omega) (by have := HM.out; omega)
      have c0 : (WA.drewN q).cell? ⟨w.heap.size, 0, none⟩ = some (.func (.func 22) #[] #[l1, l2]) := by simpa using cc0
      have P1 := (show Hid _ from p1)
      have P2 := (show Hid _ from p2)
      clear p1 p2
      cases hle : lt (f m) (f h)
      · rw [hle] at key
        have HLE := (show Hid _ from hle)
        clear hle
        go_wp2_with fail
        refine key.mono ?_
        rintro e w2 ⟨rfl, q2, rfl⟩
        go_wp2
        go_roundw
        case rel => exact ⟨h + 1, j, q + q2, by omega, by omega, hjb, by go_num, rfl, by simp, .inr (by rw [Nat.add_sub_cancel]; exact HLE.out), P2.out⟩
        case measure => simp [intOf]; omega
      · rw [hle] at key
        have HLE := (show Hid _ from hle)
        clear hle
        go_wp2_with fail
        refine key.mono ?_
        rintro e w2 ⟨rfl, q2, rfl⟩
        go_wp2
        go_roundw
        case rel => exact ⟨i, h, q + q2, hmi, by omega, by omega, rfl, rfl, by simp, P1.out, .inr HLE.out⟩
        case measure => simp [intOf]; omega
    · obtain rfl : i = j := by omega
      have P1 := (show Hid _ from p1)
      have P2 := (show Hid _ from p2)
      clear p1 p2 hlt
      have hSB : Srt w V N (rot f m m b) (WA.drewN q) := by rw [rot_none_l]; exact hSA.drewN q
      have cB : (WA.drewN q).cell? ⟨w.heap.size, 1, none⟩ = some (.func (.func sf) #[] #[s1, s2]) := by simpa using cc1
      have szA : (WA.drewN q).heap.size = w.heap.size + 1 := by simpa using hsz
      generalize hWB : WA.drewN q = WB at *
      clear hWB
      go_wp2
      go_loopw [15] (fun kk wr => ∃ k : Nat, i ≤ k ∧ k ≤ m ∧ kk = .int .i64 (k : Int) ∧ Srt w V N (rot f k m b) wr ∧ wr.cell? ⟨w.heap.size, 1, none⟩ = some (.func (.func sf) #[] #[s1, s2])) (fun kk _ => (intOf kk).toNat - i)
      case atStart => exact ⟨m, hjb, Nat.le_refl _, rfl, hSB, cB⟩
      case round =>
        obtain ⟨k, hik, hkm, rfl, hS, hcw⟩ := hrel
        have hmm := HM.out
        by_cases hlt : i < k
        · have hrun := HS.out wr (rot f k m b) hS.arr k (k - 1) (by omega) (by omega)
          have hnext : Srt w V N (rot f (k - 1) m b) ((wr.setCell ⟨V, k, none⟩ (.int .u8 (rot f k m b (k - 1)))).setCell ⟨V, k - 1, none⟩ (.int .u8 (rot f k m b k))) := by
            have e := rot_down f m k (by omega) hkm
            rw [← hmm] at e
            rw [← e]
            exact hS.swap k (k - 1) (by omega) (by omega)
          have hc' : ((wr.setCell ⟨V, k, none⟩ (.int .u8 (rot f k m b (k - 1)))).setCell ⟨V, k - 1, none⟩ (.int .u8 (rot f k m b k))).cell? ⟨w.heap.size, 1, none⟩ = some (.func (.func sf) #[] #[s1, s2]) := by
            rw [World.cell?_setCell_other _ _ _ _ (by simp <;> omega), World.cell?_setCell_other _ _ _ _ (by simp <;> omega)]; exact hcw
          generalize hBB : k - 1 = B at *
          have HN := (show Hid _ from hnext)
          have HC' := (show Hid _ from hc')
          have HBB := (show Hid _ from hBB)
          have hA1 : (k : Int) - 1 = (B : Int) := by omega
          clear hnext hc' hS hmm hSA hSB hA hBB
          go_wp2
          go_roundw
          case rel => exact ⟨B, by have := HBB.out; omega, by have := HBB.out; omega, rfl, HN.out, HC'.out⟩
          case measure => have := HBB.out; simp [intOf]; omega
        · obtain rfl : k = i := by omega
          have HR := (show Hid _ from HF.out k hmi hjb P1.out P2.out _ hS)
          clear hmm hS
          go_wp2
          exact bodyPost_ret (results_none rfl _ _ _) rfl ⟨rfl, HR.out.2⟩

end Go.Proofs.Ybulkcmdi
