import Derived.Test.YbulkcmdiSortD
namespace Go.Proofs.Ybulkcmdi
open Go.RowKit
set_option linter.unusedVariables false
set_option linter.unusedSimpArgs false

theorem sorted_keep {LT : Int → Int → Prop} {g h : Nat → Int} {a mid p q : Nat} (m : Merged LT g h a mid) (s : SortedOn LT g p q) (hp : mid ≤ p) : SortedOn LT h p q := fun i j x y z => by
  rw [m.out i (by omega), m.out j (by omega)]; exact s i j x y z
theorem cross_keep {LT : Int → Int → Prop} {lt : Int → Int → Bool} {g h : Nat → Int} {a mid p q r : Nat} (m : Merged LT g h a mid) (c : Cross LT lt g p q r) (hp : mid ≤ p) : Cross LT lt h p q r := fun i j x y z u => by
  rw [m.out i (by omega), m.out j (by omega)]; exact c i j x y z u

set_option maxHeartbeats 12800000 in
set_option maxRecDepth 100000 in
theorem sm_gen (LT : Int → Int → Prop) (tr : ∀ x y z, LT x y → LT y z → LT x z) (lt : Int → Int → Bool) (l1 l2 : Value) (sf : Nat) (s1 s2 : Value) (V N : Nat) (f : Nat → Int) (a m b : Nat) (w : World) (hN : N ≤ 100000) (hsw : SwapOK sf s1 s2 V N) (ham : a + 1 < m) (hmb : m + 1 < b) (hbN : b ≤ N)
    (hA : ArrF w V N f) (hV : V < w.heap.size) (hl : LessOK w V N l1 l2 lt) (hby : ∀ k, 0 ≤ f k ∧ f k < 256) (hs1 : SortedOn LT f a m) (hs2 : SortedOn LT f m b) (hc : Cross LT lt f a m b)
    (ih : ∀ (a' m' b' : Nat) (f' : Nat → Int) (w' : World), b' - a' < b - a → a' < m' → m' < b' → b' ≤ N → ArrF w' V N f' → V < w'.heap.size → LessOK w' V N l1 l2 lt → (∀ k, 0 ≤ f' k ∧ f' k < 256) → SortedOn LT f' a' m' → SortedOn LT f' m' b' → Cross LT lt f' a' m' b' →
      Calls Yba.prog 40 #[pairV l1 l2 sf s1 s2, .int .i64 (a' : Int), .int .i64 (m' : Int), .int .i64 (b' : Int)] w' fun e w'' => SmPost LT V N f' a' b' w' e w'')
    (mid st0 r0 : Nat) (hmid : ((a : Int) + b) / 2 = mid) (hcase : ((mid : Int) < m ∧ (mid : Int) + m - b = st0 ∧ r0 = mid) ∨ (¬ ((mid : Int) < m) ∧ st0 = a ∧ r0 = m)) :
    Calls Yba.prog 40 #[pairV l1 l2 sf s1 s2, .int .i64 (a : Int), .int .i64 (m : Int), .int .i64 (b : Int)] w fun e w' => SmPost LT V N f a b w e w' := by
  have HS : Hid (SwapOK sf s1 s2 V N) := hsw
  have HL : Hid (LessOK w V N l1 l2 lt) := hl
  have IH := (show Hid _ from ih)
  have HB : Hid (∀ k, 0 ≤ f k ∧ f k < 256) := hby
  have HS1 := (show Hid _ from hs1)
  have HS2 := (show Hid _ from hs2)
  have HCR := (show Hid _ from hc)
  have hSA : Srt w V N f (w.alloc (pairO l1 l2 sf s1 s2)) := (Srt.start hA hV).alloc _
  have hsz : (w.alloc (pairO l1 l2 sf s1 s2)).heap.size = w.heap.size + 1 := by simp
  have cc0 : (w.alloc (pairO l1 l2 sf s1 s2)).cell? ⟨w.heap.size, 0, none⟩ = some (.func (.func 22) #[] #[l1, l2]) := World.cell?_alloc_new _ _ _ _
  have cc1 : (w.alloc (pairO l1 l2 sf s1 s2)).cell? ⟨w.heap.size, 1, none⟩ = some (.func (.func sf) #[] #[s1, s2]) := World.cell?_alloc_new _ _ _ _
  have hma : (((m : Int) - a) == 1) = false := by simp; omega
  have hmb1 : (((b : Int) - m) == 1) = false := by simp; omega
  obtain ⟨n1, hn1⟩ : ∃ n1 : Nat, (mid : Int) + m = n1 := ⟨mid + m, by omega⟩
  obtain ⟨p1, hp1⟩ : ∃ p1 : Nat, (n1 : Int) - 1 = p1 := ⟨n1 - 1, by omega⟩
  have hcs : (((mid : Int) < m ∧ (n1 : Int) - b = st0) ∨ (¬ ((mid : Int) < m) ∧ st0 = a)) := by rcases hcase with ⟨x, y, z⟩ | ⟨x, y, z⟩; exact .inl ⟨x, by omega⟩; exact .inr ⟨x, y⟩
  have hb1 : a ≤ st0 := by omega
  have hb2 : st0 ≤ r0 := by omega
  have hb3 : r0 ≤ m := by omega
  have HCA := (show Hid _ from hcase)
  clear hsw hl ih hby hs1 hs2 hc hcs
  rcases hcase with ⟨hgt, hst0, hr0'⟩ | ⟨hgt, hst0, hr0'⟩
  · have hstn : (n1 : Int) - b = st0 := by omega
    obtain rfl : mid = r0 := hr0'.symm
    clear hr0'
    clear hst0
    go_enter Yba.func40, Yba.ntmps40
    go_wp2
    generalize hWA : w.alloc (pairO l1 l2 sf s1 s2) = WA at *
    go_loopw [18, 19] (fun ii jj wr => ∃ st r q : Nat, st0 ≤ st ∧ st ≤ r ∧ r ≤ mid ∧ ii = .int .i64 (st : Int) ∧ jj = .int .i64 (r : Int) ∧ wr = WA.drewN q ∧ (st = st0 ∨ lt (f (n1 - st)) (f (st - 1)) = false) ∧ (r = mid ∨ lt (f (p1 - r)) (f r) = true)) (fun ii jj _ => (intOf jj).toNat - (intOf ii).toNat)
    case atStart => exact ⟨st0, mid, 0, Nat.le_refl _, by omega, Nat.le_refl _, rfl, rfl, rfl, .inl rfl, .inl rfl⟩
    case round =>
      obtain ⟨st, r, q, hst, hsr, hr0, rfl, rfl, rfl, x1, x2⟩ := hrel
      have X1 := (show Hid _ from x1)
      have X2 := (show Hid _ from x2)
      clear x1 x2
      by_cases hlt : st < r
      · obtain ⟨c, hcc⟩ : ∃ c : Nat, ((st : Int) + r) / 2 = c := ⟨(st + r) / 2, by omega⟩
        obtain ⟨pc, hpc⟩ : ∃ pc : Nat, (p1 : Int) - c = pc := ⟨p1 - c, by omega⟩
        have key := HL.out (WA.drewN q) f (hSA.drewN q) HB.out pc c (by omega) (by omega)
        have k0 : (WA.drewN q).cell? ⟨w.heap.size, 0, none⟩ = some (.func (.func 22) #[] #[l1, l2]) := by simpa using cc0
        have hpe : p1 - c = pc := by omega
        have hpn : n1 - (c + 1) = pc := by omega
        have HPE := (show Hid _ from hpe)
        have HPN := (show Hid _ from hpn)
        clear hpe hpn
        cases hle : lt (f pc) (f c)
        · rw [hle] at key
          have HLE := (show Hid _ from hle)
          clear hle
          go_wp2_with fail
          refine key.mono ?_
          rintro e w2 ⟨rfl, q2, rfl⟩
          go_wp2
          go_roundw
          case rel => exact ⟨c + 1, r, q + q2, by omega, by omega, hr0, by go_num, rfl, by simp, .inr (by rw [HPN.out, Nat.add_sub_cancel]; exact HLE.out), X2.out⟩
          case measure => simp [intOf]; omega
        · rw [hle] at key
          have HLE := (show Hid _ from hle)
          clear hle
          go_wp2_with fail
          refine key.mono ?_
          rintro e w2 ⟨rfl, q2, rfl⟩
          go_wp2
          go_roundw
          case rel => exact ⟨st, c, q + q2, hst, by omega, by omega, rfl, rfl, by simp, X1.out, .inr (by rw [HPE.out]; exact HLE.out)⟩
          case measure => simp [intOf]; omega
      · obtain rfl : st = r := by omega
        clear hlt
        obtain ⟨s, hss⟩ : ∃ s : Nat, s = st := ⟨_, rfl⟩
        subst hss
        obtain ⟨e, he⟩ : ∃ e : Nat, (n1 : Int) - s = e := ⟨n1 - s, by omega⟩
        have hH := halves tr f lt a s m e b (by omega) (by omega) (by omega) (by omega) HS1.out HS2.out HCR.out
          (by rcases X1.out with h | h; (rcases HCA.out with ⟨y1, y2, y3⟩ | ⟨y1, y2, y3⟩; exact .inr (.inl (by omega)); exact .inl (by omega)); exact .inr (.inr (by rw [show e = n1 - s by omega]; exact h)))
          (by rcases X2.out with h | h; (rcases HCA.out with ⟨y1, y2, y3⟩ | ⟨y1, y2, y3⟩; exact .inr (.inl (by omega)); exact .inl (by omega)); exact .inr (.inr (by rw [show e - 1 = p1 - s by omega]; exact h)))
        rw [show s + (e - m) = mid by omega] at hH
        obtain ⟨g, hg⟩ : ∃ g, g = rot f s m e := ⟨_, rfl⟩
        have hsame : SameOn f g a b := by rw [hg]; exact (same_rot f s m e (by omega) (by omega)).widen (by omega) (by omega)
        have HBg : Hid (∀ k, 0 ≤ g k ∧ g k < 256) := by show ∀ k, _; rw [hg]; exact byt_rot _ _ _ HB.out
        rw [← hg] at hH
        have HH : Hid (Halves LT lt g a s mid e b) := hH
        have HG : Hid (SameOn f g a b) := hsame
        have HGG : Hid (g = rot f s m e) := hg
        have sA := hSA.drewN q
        have szA : w.heap.size < (WA.drewN q).heap.size := by simp; omega
        have ca0 : (WA.drewN q).cell? ⟨w.heap.size, 0, none⟩ = some (.func (.func 22) #[] #[l1, l2]) := by simpa using cc0
        have ca1 : (WA.drewN q).cell? ⟨w.heap.size, 1, none⟩ = some (.func (.func sf) #[] #[s1, s2]) := by simpa using cc1
        generalize hWB : WA.drewN q = WB at *
        clear hWB hH hsame hg hSA cc0 cc1 hsz
        by_cases hr : s < m ∧ m < e
        · have hr1 : (s : Int) < m := by omega
          have hr2 : (m : Int) < e := by omega
          have key := rotate_u (.func (.func 22) #[] #[l1, l2]) ⟨_, _, _, rfl⟩ sf s1 s2 V N WB f s m e WB (by omega) HS.out (Srt.start sA.arr sA.lt) hr.1 hr.2 (by omega)
          have HRR := (show Hid _ from hr)
          clear hr
          go_wp2_with fail
          refine key.mono ?_
          rintro e0 w2 ⟨rfl, t0⟩
          rw [← HGG.out] at t0
          have hDV : w.heap.size ≠ V := by omega
          have w2c0 : w2.cell? ⟨w.heap.size, 0, none⟩ = some (.func (.func 22) #[] #[l1, l2]) := (t0.cell (p := ⟨w.heap.size, 0, none⟩) szA hDV).trans ca0
          have w2c1 : w2.cell? ⟨w.heap.size, 1, none⟩ = some (.func (.func sf) #[] #[s1, s2]) := (t0.cell (p := ⟨w.heap.size, 1, none⟩) szA hDV).trans ca1
          have u0 := sA.rebase t0
          clear key t0 ca0 ca1 sA
          by_cases hp : a < s ∧ s < mid
          · have hp1 : (a : Int) < s := by omega
            have hp2 : (s : Int) < mid := by omega
            have key := IH.out a s mid g w2 (by omega) hp.1 hp.2 (by omega) u0.arr u0.lt (HL.out.rebase u0) HBg.out HH.out.s1 HH.out.s2 HH.out.c1
            have k0 : w2.cell? ⟨w.heap.size, 0, none⟩ = some (.func (.func 22) #[] #[l1, l2]) := w2c0
            have k1 : w2.cell? ⟨w.heap.size, 1, none⟩ = some (.func (.func sf) #[] #[s1, s2]) := w2c1
            have HPP := (show Hid _ from hp)
            clear hp
            go_wp2_with fail
            refine key.mono ?_
            rintro e1 w3 ⟨rfl, h1, t1, y1, m1⟩
            have szD : w.heap.size < w2.heap.size := World.block_lt_of_cell? _ _ k0
            have hDV : w.heap.size ≠ V := by omega
            have w3c0 : w3.cell? ⟨w.heap.size, 0, none⟩ = some (.func (.func 22) #[] #[l1, l2]) := (t1.cell (p := ⟨w.heap.size, 0, none⟩) szD hDV).trans k0
            have w3c1 : w3.cell? ⟨w.heap.size, 1, none⟩ = some (.func (.func sf) #[] #[s1, s2]) := (t1.cell (p := ⟨w.heap.size, 1, none⟩) szD hDV).trans k1
            have u1 := u0.rebase t1
            clear key t1
            by_cases hq : mid < e ∧ e < b
            · have hq1 : (mid : Int) < e := by omega
              have hq2 : (e : Int) < b := by omega
              have k0 : w3.cell? ⟨w.heap.size, 0, none⟩ = some (.func (.func 22) #[] #[l1, l2]) := w3c0
              have k1 : w3.cell? ⟨w.heap.size, 1, none⟩ = some (.func (.func sf) #[] #[s1, s2]) := w3c1
              have key := IH.out mid e b h1 w3 (by omega) hq.1 hq.2 hbN u1.arr u1.lt (HL.out.rebase u1) y1 (sorted_keep m1 HH.out.s3 (by omega)) (sorted_keep m1 HH.out.s4 (by omega)) (cross_keep m1 HH.out.c2 (by omega))
              have HQ := (show Hid _ from hq)
              clear hq
              go_wp2_with fail
              all_goals
                refine key.mono ?_
                rintro e2 w4 ⟨rfl, h2, t2, y2, m2⟩
                have HR : Hid (SmPost LT V N f a b w (.returned (.tuple #[])) w4) := ⟨rfl, h2, u1.rebase t2, y2, merge_halves (by omega) (by omega) HH.out HG.out m1 m2⟩
                clear key
                go_wp2
                all_goals (go_end0; exact ⟨rfl, HR.out.2⟩)
            · have hm2 : Merged LT h1 h1 mid b := Merged.of (SameOn.refl _ _ _) (by
                rcases (by omega : e ≤ mid ∨ b ≤ e) with h | h
                · have := sorted_keep m1 HH.out.s4 (by omega)
                  intro i j x y z; exact this i j (by omega) y z
                · have := sorted_keep m1 HH.out.s3 (by omega)
                  intro i j x y z; exact this i j x y (by omega))
              have HR : Hid (SmPost LT V N f a b w (.returned (.tuple #[])) w3) := ⟨rfl, h1, u1, y1, merge_halves (by omega) (by omega) HH.out HG.out m1 hm2⟩
              by_cases hq1 : mid < e
              · have hq1I : (mid : Int) < e := by omega
                have hq2I : ¬ ((e : Int) < b) := by omega
                clear hq hq1 hm2
                go_wp2
                all_goals (go_end0; exact ⟨rfl, HR.out.2⟩)
              · have hq1I : ¬ ((mid : Int) < e) := by omega
                clear hq hq1 hm2
                go_wp2
                all_goals (go_end0; exact ⟨rfl, HR.out.2⟩)
          · have hm1 : Merged LT g g a mid := Merged.of (SameOn.refl _ _ _) (by
              rcases (by omega : s ≤ a ∨ mid ≤ s) with h | h
              · have := HH.out.s2
                intro i j x y z; exact this i j (by omega) y z
              · have := HH.out.s1
                intro i j x y z; exact this i j x y (by omega))
            have HPP : Hid ((¬ (a : Int) < s) ∨ ((a : Int) < s ∧ ¬ (s : Int) < mid)) := by show _ ∨ _; omega
            clear hp
            rcases HPP.out with hp1 | ⟨hp1, hp2⟩
            · by_cases hq : mid < e ∧ e < b
              · have hq1 : (mid : Int) < e := by omega
                have hq2 : (e : Int) < b := by omega
                have k0 : w2.cell? ⟨w.heap.size, 0, none⟩ = some (.func (.func 22) #[] #[l1, l2]) := w2c0
                have k1 : w2.cell? ⟨w.heap.size, 1, none⟩ = some (.func (.func sf) #[] #[s1, s2]) := w2c1
                have key := IH.out mid e b g w2 (by omega) hq.1 hq.2 hbN u0.arr u0.lt (HL.out.rebase u0) HBg.out (sorted_keep hm1 HH.out.s3 (by omega)) (sorted_keep hm1 HH.out.s4 (by omega)) (cross_keep hm1 HH.out.c2 (by omega))
                have HQ := (show Hid _ from hq)
                clear hq
                go_wp2_with fail
                all_goals
                  refine key.mono ?_
                  rintro e2 w4 ⟨rfl, h2, t2, y2, m2⟩
                  have HR : Hid (SmPost LT V N f a b w (.returned (.tuple #[])) w4) := ⟨rfl, h2, u0.rebase t2, y2, merge_halves (by omega) (by omega) HH.out HG.out hm1 m2⟩
                  clear key
                  go_wp2
                  all_goals (go_end0; exact ⟨rfl, HR.out.2⟩)
              · have hm2 : Merged LT g g mid b := Merged.of (SameOn.refl _ _ _) (by
                  rcases (by omega : e ≤ mid ∨ b ≤ e) with h | h
                  · have := sorted_keep hm1 HH.out.s4 (by omega)
                    intro i j x y z; exact this i j (by omega) y z
                  · have := sorted_keep hm1 HH.out.s3 (by omega)
                    intro i j x y z; exact this i j x y (by omega))
                have HR : Hid (SmPost LT V N f a b w (.returned (.tuple #[])) w2) := ⟨rfl, g, u0, HBg.out, merge_halves (by omega) (by omega) HH.out HG.out hm1 hm2⟩
                by_cases hq1 : mid < e
                · have hq1I : (mid : Int) < e := by omega
                  have hq2I : ¬ ((e : Int) < b) := by omega
                  clear hq hq1 hm2
                  go_wp2
                  all_goals (go_end0; exact ⟨rfl, HR.out.2⟩)
                · have hq1I : ¬ ((mid : Int) < e) := by omega
                  clear hq hq1 hm2
                  go_wp2
                  all_goals (go_end0; exact ⟨rfl, HR.out.2⟩)
            · by_cases hq : mid < e ∧ e < b
              · have hq1 : (mid : Int) < e := by omega
                have hq2 : (e : Int) < b := by omega
                have k0 : w2.cell? ⟨w.heap.size, 0, none⟩ = some (.func (.func 22) #[] #[l1, l2]) := w2c0
                have k1 : w2.cell? ⟨w.heap.size, 1, none⟩ = some (.func (.func sf) #[] #[s1, s2]) := w2c1
                have key := IH.out mid e b g w2 (by omega) hq.1 hq.2 hbN u0.arr u0.lt (HL.out.rebase u0) HBg.out (sorted_keep hm1 HH.out.s3 (by omega)) (sorted_keep hm1 HH.out.s4 (by omega)) (cross_keep hm1 HH.out.c2 (by omega))
                have HQ := (show Hid _ from hq)
                clear hq
                go_wp2_with fail
                all_goals
                  refine key.mono ?_
                  rintro e2 w4 ⟨rfl, h2, t2, y2, m2⟩
                  have HR : Hid (SmPost LT V N f a b w (.returned (.tuple #[])) w4) := ⟨rfl, h2, u0.rebase t2, y2, merge_halves (by omega) (by omega) HH.out HG.out hm1 m2⟩
                  clear key
                  go_wp2
                  all_goals (go_end0; exact ⟨rfl, HR.out.2⟩)
              · have hm2 : Merged LT g g mid b := Merged.of (SameOn.refl _ _ _) (by
                  rcases (by omega : e ≤ mid ∨ b ≤ e) with h | h
                  · have := sorted_keep hm1 HH.out.s4 (by omega)
                    intro i j x y z; exact this i j (by omega) y z
                  · have := sorted_keep hm1 HH.out.s3 (by omega)
                    intro i j x y z; exact this i j x y (by omega))
                have HR : Hid (SmPost LT V N f a b w (.returned (.tuple #[])) w2) := ⟨rfl, g, u0, HBg.out, merge_halves (by omega) (by omega) HH.out HG.out hm1 hm2⟩
                by_cases hq1 : mid < e
                · have hq1I : (mid : Int) < e := by omega
                  have hq2I : ¬ ((e : Int) < b) := by omega
                  clear hq hq1 hm2
                  go_wp2
                  all_goals (go_end0; exact ⟨rfl, HR.out.2⟩)
                · have hq1I : ¬ ((mid : Int) < e) := by omega
                  clear hq hq1 hm2
                  go_wp2
                  all_goals (go_end0; exact ⟨rfl, HR.out.2⟩)
        · have hgf : g = f := by
            rw [HGG.out]
            rcases (by omega : s = m ∨ m = e) with h | h
            · rw [h]; exact rot_none_l _ _ _
            · rw [h]; exact rot_none_r _ _ _
          rw [← hgf] at sA
          have HRR : Hid ((¬ (s : Int) < m) ∨ ((s : Int) < m ∧ ¬ (m : Int) < e)) := by show _ ∨ _; omega
          have WBc0 := ca0
          have WBc1 := ca1
          clear hr hgf ca0 ca1
          rcases HRR.out with hr1 | ⟨hr1, hr2⟩
          · by_cases hp : a < s ∧ s < mid
            · have hp1 : (a : Int) < s := by omega
              have hp2 : (s : Int) < mid := by omega
              have key := IH.out a s mid g WB (by omega) hp.1 hp.2 (by omega) sA.arr sA.lt (HL.out.rebase sA) HBg.out HH.out.s1 HH.out.s2 HH.out.c1
              have k0 : WB.cell? ⟨w.heap.size, 0, none⟩ = some (.func (.func 22) #[] #[l1, l2]) := WBc0
              have k1 : WB.cell? ⟨w.heap.size, 1, none⟩ = some (.func (.func sf) #[] #[s1, s2]) := WBc1
              have HPP := (show Hid _ from hp)
              clear hp
              go_wp2_with fail
              refine key.mono ?_
              rintro e1 w3 ⟨rfl, h1, t1, y1, m1⟩
              have szD : w.heap.size < WB.heap.size := World.block_lt_of_cell? _ _ k0
              have hDV : w.heap.size ≠ V := by omega
              have w3c0 : w3.cell? ⟨w.heap.size, 0, none⟩ = some (.func (.func 22) #[] #[l1, l2]) := (t1.cell (p := ⟨w.heap.size, 0, none⟩) szD hDV).trans k0
              have w3c1 : w3.cell? ⟨w.heap.size, 1, none⟩ = some (.func (.func sf) #[] #[s1, s2]) := (t1.cell (p := ⟨w.heap.size, 1, none⟩) szD hDV).trans k1
              have u1 := sA.rebase t1
              clear key t1
              by_cases hq : mid < e ∧ e < b
              · have hq1 : (mid : Int) < e := by omega
                have hq2 : (e : Int) < b := by omega
                have k0 : w3.cell? ⟨w.heap.size, 0, none⟩ = some (.func (.func 22) #[] #[l1, l2]) := w3c0
                have k1 : w3.cell? ⟨w.heap.size, 1, none⟩ = some (.func (.func sf) #[] #[s1, s2]) := w3c1
                have key := IH.out mid e b h1 w3 (by omega) hq.1 hq.2 hbN u1.arr u1.lt (HL.out.rebase u1) y1 (sorted_keep m1 HH.out.s3 (by omega)) (sorted_keep m1 HH.out.s4 (by omega)) (cross_keep m1 HH.out.c2 (by omega))
                have HQ := (show Hid _ from hq)
                clear hq
                go_wp2_with fail
                all_goals
                  refine key.mono ?_
                  rintro e2 w4 ⟨rfl, h2, t2, y2, m2⟩
                  have HR : Hid (SmPost LT V N f a b w (.returned (.tuple #[])) w4) := ⟨rfl, h2, u1.rebase t2, y2, merge_halves (by omega) (by omega) HH.out HG.out m1 m2⟩
                  clear key
                  go_wp2
                  all_goals (go_end0; exact ⟨rfl, HR.out.2⟩)
              · have hm2 : Merged LT h1 h1 mid b := Merged.of (SameOn.refl _ _ _) (by
                  rcases (by omega : e ≤ mid ∨ b ≤ e) with h | h
                  · have := sorted_keep m1 HH.out.s4 (by omega)
                    intro i j x y z; exact this i j (by omega) y z
                  · have := sorted_keep m1 HH.out.s3 (by omega)
                    intro i j x y z; exact this i j x y (by omega))
                have HR : Hid (SmPost LT V N f a b w (.returned (.tuple #[])) w3) := ⟨rfl, h1, u1, y1, merge_halves (by omega) (by omega) HH.out HG.out m1 hm2⟩
                by_cases hq1 : mid < e
                · have hq1I : (mid : Int) < e := by omega
                  have hq2I : ¬ ((e : Int) < b) := by omega
                  clear hq hq1 hm2
                  go_wp2
                  all_goals (go_end0; exact ⟨rfl, HR.out.2⟩)
                · have hq1I : ¬ ((mid : Int) < e) := by omega
                  clear hq hq1 hm2
                  go_wp2
                  all_goals (go_end0; exact ⟨rfl, HR.out.2⟩)
            · have hm1 : Merged LT g g a mid := Merged.of (SameOn.refl _ _ _) (by
                rcases (by omega : s ≤ a ∨ mid ≤ s) with h | h
                · have := HH.out.s2
                  intro i j x y z; exact this i j (by omega) y z
                · have := HH.out.s1
                  intro i j x y z; exact this i j x y (by omega))
              have HPP : Hid ((¬ (a : Int) < s) ∨ ((a : Int) < s ∧ ¬ (s : Int) < mid)) := by show _ ∨ _; omega
              clear hp
              rcases HPP.out with hp1 | ⟨hp1, hp2⟩
              · by_cases hq : mid < e ∧ e < b
                · have hq1 : (mid : Int) < e := by omega
                  have hq2 : (e : Int) < b := by omega
                  have k0 : WB.cell? ⟨w.heap.size, 0, none⟩ = some (.func (.func 22) #[] #[l1, l2]) := WBc0
                  have k1 : WB.cell? ⟨w.heap.size, 1, none⟩ = some (.func (.func sf) #[] #[s1, s2]) := WBc1
                  have key := IH.out mid e b g WB (by omega) hq.1 hq.2 hbN sA.arr sA.lt (HL.out.rebase sA) HBg.out (sorted_keep hm1 HH.out.s3 (by omega)) (sorted_keep hm1 HH.out.s4 (by omega)) (cross_keep hm1 HH.out.c2 (by omega))
                  have HQ := (show Hid _ from hq)
                  clear hq
                  go_wp2_with fail
                  all_goals
                    refine key.mono ?_
                    rintro e2 w4 ⟨rfl, h2, t2, y2, m2⟩
                    have HR : Hid (SmPost LT V N f a b w (.returned (.tuple #[])) w4) := ⟨rfl, h2, sA.rebase t2, y2, merge_halves (by omega) (by omega) HH.out HG.out hm1 m2⟩
                    clear key
                    go_wp2
                    all_goals (go_end0; exact ⟨rfl, HR.out.2⟩)
                · have hm2 : Merged LT g g mid b := Merged.of (SameOn.refl _ _ _) (by
                    rcases (by omega : e ≤ mid ∨ b ≤ e) with h | h
                    · have := sorted_keep hm1 HH.out.s4 (by omega)
                      intro i j x y z; exact this i j (by omega) y z
                    · have := sorted_keep hm1 HH.out.s3 (by omega)
                      intro i j x y z; exact this i j x y (by omega))
                  have HR : Hid (SmPost LT V N f a b w (.returned (.tuple #[])) WB) := ⟨rfl, g, sA, HBg.out, merge_halves (by omega) (by omega) HH.out HG.out hm1 hm2⟩
                  by_cases hq1 : mid < e
                  · have hq1I : (mid : Int) < e := by omega
                    have hq2I : ¬ ((e : Int) < b) := by omega
                    clear hq hq1 hm2
                    go_wp2
                    all_goals (go_end0; exact ⟨rfl, HR.out.2⟩)
                  · have hq1I : ¬ ((mid : Int) < e) := by omega
                    clear hq hq1 hm2
                    go_wp2
                    all_goals (go_end0; exact ⟨rfl, HR.out.2⟩)
              · by_cases hq : mid < e ∧ e < b
                · have hq1 : (mid : Int) < e := by omega
                  have hq2 : (e : Int) < b := by omega
                  have k0 : WB.cell? ⟨w.heap.size, 0, none⟩ = some (.func (.func 22) #[] #[l1, l2]) := WBc0
                  have k1 : WB.cell? ⟨w.heap.size, 1, none⟩ = some (.func (.func sf) #[] #[s1, s2]) := WBc1
                  have key := IH.out mid e b g WB (by omega) hq.1 hq.2 hbN sA.arr sA.lt (HL.out.rebase sA) HBg.out (sorted_keep hm1 HH.out.s3 (by omega)) (sorted_keep hm1 HH.out.s4 (by omega)) (cross_keep hm1 HH.out.c2 (by omega))
                  have HQ := (show Hid _ from hq)
                  clear hq
                  go_wp2_with fail
                  all_goals
                    refine key.mono ?_
                    rintro e2 w4 ⟨rfl, h2, t2, y2, m2⟩
                    have HR : Hid (SmPost LT V N f a b w (.returned (.tuple #[])) w4) := ⟨rfl, h2, sA.rebase t2, y2, merge_halves (by omega) (by omega) HH.out HG.out hm1 m2⟩
                    clear key
                    go_wp2
                    all_goals (go_end0; exact ⟨rfl, HR.out.2⟩)
                · have hm2 : Merged LT g g mid b := Merged.of (SameOn.refl _ _ _) (by
                    rcases (by omega : e ≤ mid ∨ b ≤ e) with h | h
                    · have := sorted_keep hm1 HH.out.s4 (by omega)
                      intro i j x y z; exact this i j (by omega) y z
                    · have := sorted_keep hm1 HH.out.s3 (by omega)
                      intro i j x y z; exact this i j x y (by omega))
                  have HR : Hid (SmPost LT V N f a b w (.returned (.tuple #[])) WB) := ⟨rfl, g, sA, HBg.out, merge_halves (by omega) (by omega) HH.out HG.out hm1 hm2⟩
                  by_cases hq1 : mid < e
                  · have hq1I : (mid : Int) < e := by omega
                    have hq2I : ¬ ((e : Int) < b) := by omega
                    clear hq hq1 hm2
                    go_wp2
                    all_goals (go_end0; exact ⟨rfl, HR.out.2⟩)
                  · have hq1I : ¬ ((mid : Int) < e) := by omega
                    clear hq hq1 hm2
                    go_wp2
                    all_goals (go_end0; exact ⟨rfl, HR.out.2⟩)
          · by_cases hp : a < s ∧ s < mid
            · have hp1 : (a : Int) < s := by omega
              have hp2 : (s : Int) < mid := by omega
              have key := IH.out a s mid g WB (by omega) hp.1 hp.2 (by omega) sA.arr sA.lt (HL.out.rebase sA) HBg.out HH.out.s1 HH.out.s2 HH.out.c1
              have k0 : WB.cell? ⟨w.heap.size, 0, none⟩ = some (.func (.func 22) #[] #[l1, l2]) := WBc0
              have k1 : WB.cell? ⟨w.heap.size, 1, none⟩ = some (.func (.func sf) #[] #[s1, s2]) := WBc1
              have HPP := (show Hid _ from hp)
              clear hp
              go_wp2_with fail
              refine key.mono ?_
              rintro e1 w3 ⟨rfl, h1, t1, y1, m1⟩
              have szD : w.heap.size < WB.heap.size := World.block_lt_of_cell? _ _ k0
              have hDV : w.heap.size ≠ V := by omega
              have w3c0 : w3.cell? ⟨w.heap.size, 0, none⟩ = some (.func (.func 22) #[] #[l1, l2]) := (t1.cell (p := ⟨w.heap.size, 0, none⟩) szD hDV).trans k0
              have w3c1 : w3.cell? ⟨w.heap.size, 1, none⟩ = some (.func (.func sf) #[] #[s1, s2]) := (t1.cell (p := ⟨w.heap.size, 1, none⟩) szD hDV).trans k1
              have u1 := sA.rebase t1
              clear key t1
              by_cases hq : mid < e ∧ e < b
              · have hq1 : (mid : Int) < e := by omega
                have hq2 : (e : Int) < b := by omega
                have k0 : w3.cell? ⟨w.heap.size, 0, none⟩ = some (.func (.func 22) #[] #[l1, l2]) := w3c0
                have k1 : w3.cell? ⟨w.heap.size, 1, none⟩ = some (.func (.func sf) #[] #[s1, s2]) := w3c1
                have key := IH.out mid e b h1 w3 (by omega) hq.1 hq.2 hbN u1.arr u1.lt (HL.out.rebase u1) y1 (sorted_keep m1 HH.out.s3 (by omega)) (sorted_keep m1 HH.out.s4 (by omega)) (cross_keep m1 HH.out.c2 (by omega))
                have HQ := (show Hid _ from hq)
                clear hq
                go_wp2_with fail
                all_goals
                  refine key.mono ?_
                  rintro e2 w4 ⟨rfl, h2, t2, y2, m2⟩
                  have HR : Hid (SmPost LT V N f a b w (.returned (.tuple #[])) w4) := ⟨rfl, h2, u1.rebase t2, y2, merge_halves (by omega) (by omega) HH.out HG.out m1 m2⟩
                  clear key
                  go_wp2
                  all_goals (go_end0; exact ⟨rfl, HR.out.2⟩)
              · have hm2 : Merged LT h1 h1 mid b := Merged.of (SameOn.refl _ _ _) (by
                  rcases (by omega : e ≤ mid ∨ b ≤ e) with h | h
                  · have := sorted_keep m1 HH.out.s4 (by omega)
                    intro i j x y z; exact this i j (by omega) y z
                  · have := sorted_keep m1 HH.out.s3 (by omega)
                    intro i j x y z; exact this i j x y (by omega))
                have HR : Hid (SmPost LT V N f a b w (.returned (.tuple #[])) w3) := ⟨rfl, h1, u1, y1, merge_halves (by omega) (by omega) HH.out HG.out m1 hm2⟩
                by_cases hq1 : mid < e
                · have hq1I : (mid : Int) < e := by omega
                  have hq2I : ¬ ((e : Int) < b) := by omega
                  clear hq hq1 hm2
                  go_wp2
                  all_goals (go_end0; exact ⟨rfl, HR.out.2⟩)
                · have hq1I : ¬ ((mid : Int) < e) := by omega
                  clear hq hq1 hm2
                  go_wp2
                  all_goals (go_end0; exact ⟨rfl, HR.out.2⟩)
            · have hm1 : Merged LT g g a mid := Merged.of (SameOn.refl _ _ _) (by
                rcases (by omega : s ≤ a ∨ mid ≤ s) with h | h
                · have := HH.out.s2
                  intro i j x y z; exact this i j (by omega) y z
                · have := HH.out.s1
                  intro i j x y z; exact this i j x y (by omega))
              have HPP : Hid ((¬ (a : Int) < s) ∨ ((a : Int) < s ∧ ¬ (s : Int) < mid)) := by show _ ∨ _; omega
              clear hp
              rcases HPP.out with hp1 | ⟨hp1, hp2⟩
              · by_cases hq : mid < e ∧ e < b
                · have hq1 : (mid : Int) < e := by omega
                  have hq2 : (e : Int) < b := by omega
                  have k0 : WB.cell? ⟨w.heap.size, 0, none⟩ = some (.func (.func 22) #[] #[l1, l2]) := WBc0
                  have k1 : WB.cell? ⟨w.heap.size, 1, none⟩ = some (.func (.func sf) #[] #[s1, s2]) := WBc1
                  have key := IH.out mid e b g WB (by omega) hq.1 hq.2 hbN sA.arr sA.lt (HL.out.rebase sA) HBg.out (sorted_keep hm1 HH.out.s3 (by omega)) (sorted_keep hm1 HH.out.s4 (by omega)) (cross_keep hm1 HH.out.c2 (by omega))
                  have HQ := (show Hid _ from hq)
                  clear hq
                  go_wp2_with fail
                  all_goals
                    refine key.mono ?_
                    rintro e2 w4 ⟨rfl, h2, t2, y2, m2⟩
                    have HR : Hid (SmPost LT V N f a b w (.returned (.tuple #[])) w4) := ⟨rfl, h2, sA.rebase t2, y2, merge_halves (by omega) (by omega) HH.out HG.out hm1 m2⟩
                    clear key
                    go_wp2
                    all_goals (go_end0; exact ⟨rfl, HR.out.2⟩)
                · have hm2 : Merged LT g g mid b := Merged.of (SameOn.refl _ _ _) (by
                    rcases (by omega : e ≤ mid ∨ b ≤ e) with h | h
                    · have := sorted_keep hm1 HH.out.s4 (by omega)
                      intro i j x y z; exact this i j (by omega) y z
                    · have := sorted_keep hm1 HH.out.s3 (by omega)
                      intro i j x y z; exact this i j x y (by omega))
                  have HR : Hid (SmPost LT V N f a b w (.returned (.tuple #[])) WB) := ⟨rfl, g, sA, HBg.out, merge_halves (by omega) (by omega) HH.out HG.out hm1 hm2⟩
                  by_cases hq1 : mid < e
                  · have hq1I : (mid : Int) < e := by omega
                    have hq2I : ¬ ((e : Int) < b) := by omega
                    clear hq hq1 hm2
                    go_wp2
                    all_goals (go_end0; exact ⟨rfl, HR.out.2⟩)
                  · have hq1I : ¬ ((mid : Int) < e) := by omega
                    clear hq hq1 hm2
                    go_wp2
                    all_goals (go_end0; exact ⟨rfl, HR.out.2⟩)
              · by_cases hq : mid < e ∧ e < b
                · have hq1 : (mid : Int) < e := by omega
                  have hq2 : (e : Int) < b := by omega
                  have k0 : WB.cell? ⟨w.heap.size, 0, none⟩ = some (.func (.func 22) #[] #[l1, l2]) := WBc0
                  have k1 : WB.cell? ⟨w.heap.size, 1, none⟩ = some (.func (.func sf) #[] #[s1, s2]) := WBc1
                  have key := IH.out mid e b g WB (by omega) hq.1 hq.2 hbN sA.arr sA.lt (HL.out.rebase sA) HBg.out (sorted_keep hm1 HH.out.s3 (by omega)) (sorted_keep hm1 HH.out.s4 (by omega)) (cross_keep hm1 HH.out.c2 (by omega))
                  have HQ := (show Hid _ from hq)
                  clear hq
                  go_wp2_with fail
                  all_goals
                    refine key.mono ?_
                    rintro e2 w4 ⟨rfl, h2, t2, y2, m2⟩
                    have HR : Hid (SmPost LT V N f a b w (.returned (.tuple #[])) w4) := ⟨rfl, h2, sA.rebase t2, y2, merge_halves (by omega) (by omega) HH.out HG.out hm1 m2⟩
                    clear key
                    go_wp2
                    all_goals (go_end0; exact ⟨rfl, HR.out.2⟩)
                · have hm2 : Merged LT g g mid b := Merged.of (SameOn.refl _ _ _) (by
                    rcases (by omega : e ≤ mid ∨ b ≤ e) with h | h
                    · have := sorted_keep hm1 HH.out.s4 (by omega)
                      intro i j x y z; exact this i j (by omega) y z
                    · have := sorted_keep hm1 HH.out.s3 (by omega)
                      intro i j x y z; exact this i j x y (by omega))
                  have HR : Hid (SmPost LT V N f a b w (.returned (.tuple #[])) WB) := ⟨rfl, g, sA, HBg.out, merge_halves (by omega) (by omega) HH.out HG.out hm1 hm2⟩
                  by_cases hq1 : mid < e
                  · have hq1I : (mid : Int) < e := by omega
                    have hq2I : ¬ ((e : Int) < b) := by omega
                    clear hq hq1 hm2
                    go_wp2
                    all_goals (go_end0; exact ⟨rfl, HR.out.2⟩)
                  · have hq1I : ¬ ((mid : Int) < e) := by omega
                    clear hq hq1 hm2
                    go_wp2
                    all_goals (go_end0; exact ⟨rfl, HR.out.2⟩)
  · obtain rfl : a = st0 := hst0.symm
    obtain rfl : m = r0 := hr0'.symm
    clear hst0 hr0'
    go_enter Yba.func40, Yba.ntmps40
    go_wp2
    generalize hWA : w.alloc (pairO l1 l2 sf s1 s2) = WA at *
    go_loopw [18, 19] (fun ii jj wr => ∃ st r q : Nat, a ≤ st ∧ st ≤ r ∧ r ≤ m ∧ ii = .int .i64 (st : Int) ∧ jj = .int .i64 (r : Int) ∧ wr = WA.drewN q ∧ (st = a ∨ lt (f (n1 - st)) (f (st - 1)) = false) ∧ (r = m ∨ lt (f (p1 - r)) (f r) = true)) (fun ii jj _ => (intOf jj).toNat - (intOf ii).toNat)
    case atStart => exact ⟨a, m, 0, Nat.le_refl _, by omega, Nat.le_refl _, rfl, rfl, rfl, .inl rfl, .inl rfl⟩
    case round =>
      obtain ⟨st, r, q, hst, hsr, hr0, rfl, rfl, rfl, x1, x2⟩ := hrel
      have X1 := (show Hid _ from x1)
      have X2 := (show Hid _ from x2)
      clear x1 x2
      by_cases hlt : st < r
      · obtain ⟨c, hcc⟩ : ∃ c : Nat, ((st : Int) + r) / 2 = c := ⟨(st + r) / 2, by omega⟩
        obtain ⟨pc, hpc⟩ : ∃ pc : Nat, (p1 : Int) - c = pc := ⟨p1 - c, by omega⟩
        have key := HL.out (WA.drewN q) f (hSA.drewN q) HB.out pc c (by omega) (by omega)
        have k0 : (WA.drewN q).cell? ⟨w.heap.size, 0, none⟩ = some (.func (.func 22) #[] #[l1, l2]) := by simpa using cc0
        have hpe : p1 - c = pc := by omega
        have hpn : n1 - (c + 1) = pc := by omega
        have HPE := (show Hid _ from hpe)
        have HPN := (show Hid _ from hpn)
        clear hpe hpn
        cases hle : lt (f pc) (f c)
        · rw [hle] at key
          have HLE := (show Hid _ from hle)
          clear hle
          go_wp2_with fail
          refine key.mono ?_
          rintro e w2 ⟨rfl, q2, rfl⟩
          go_wp2
          go_roundw
          case rel => exact ⟨c + 1, r, q + q2, by omega, by omega, hr0, by go_num, rfl, by simp, .inr (by rw [HPN.out, Nat.add_sub_cancel]; exact HLE.out), X2.out⟩
          case measure => simp [intOf]; omega
        · rw [hle] at key
          have HLE := (show Hid _ from hle)
          clear hle
          go_wp2_with fail
          refine key.mono ?_
          rintro e w2 ⟨rfl, q2, rfl⟩
          go_wp2
          go_roundw
          case rel => exact ⟨st, c, q + q2, hst, by omega, by omega, rfl, rfl, by simp, X1.out, .inr (by rw [HPE.out]; exact HLE.out)⟩
          case measure => simp [intOf]; omega
      · obtain rfl : st = r := by omega
        clear hlt
        obtain ⟨s, hss⟩ : ∃ s : Nat, s = st := ⟨_, rfl⟩
        subst hss
        obtain ⟨e, he⟩ : ∃ e : Nat, (n1 : Int) - s = e := ⟨n1 - s, by omega⟩
        have hH := halves tr f lt a s m e b (by omega) (by omega) (by omega) (by omega) HS1.out HS2.out HCR.out
          (by rcases X1.out with h | h; (rcases HCA.out with ⟨y1, y2, y3⟩ | ⟨y1, y2, y3⟩; exact .inr (.inl (by omega)); exact .inl (by omega)); exact .inr (.inr (by rw [show e = n1 - s by omega]; exact h)))
          (by rcases X2.out with h | h; (rcases HCA.out with ⟨y1, y2, y3⟩ | ⟨y1, y2, y3⟩; exact .inr (.inl (by omega)); exact .inl (by omega)); exact .inr (.inr (by rw [show e - 1 = p1 - s by omega]; exact h)))
        rw [show s + (e - m) = mid by omega] at hH
        obtain ⟨g, hg⟩ : ∃ g, g = rot f s m e := ⟨_, rfl⟩
        have hsame : SameOn f g a b := by rw [hg]; exact (same_rot f s m e (by omega) (by omega)).widen (by omega) (by omega)
        have HBg : Hid (∀ k, 0 ≤ g k ∧ g k < 256) := by show ∀ k, _; rw [hg]; exact byt_rot _ _ _ HB.out
        rw [← hg] at hH
        have HH : Hid (Halves LT lt g a s mid e b) := hH
        have HG : Hid (SameOn f g a b) := hsame
        have HGG : Hid (g = rot f s m e) := hg
        have sA := hSA.drewN q
        have szA : w.heap.size < (WA.drewN q).heap.size := by simp; omega
        have ca0 : (WA.drewN q).cell? ⟨w.heap.size, 0, none⟩ = some (.func (.func 22) #[] #[l1, l2]) := by simpa using cc0
        have ca1 : (WA.drewN q).cell? ⟨w.heap.size, 1, none⟩ = some (.func (.func sf) #[] #[s1, s2]) := by simpa using cc1
        generalize hWB : WA.drewN q = WB at *
        clear hWB hH hsame hg hSA cc0 cc1 hsz
        by_cases hr : s < m ∧ m < e
        · have hr1 : (s : Int) < m := by omega
          have hr2 : (m : Int) < e := by omega
          have key := rotate_u (.func (.func 22) #[] #[l1, l2]) ⟨_, _, _, rfl⟩ sf s1 s2 V N WB f s m e WB (by omega) HS.out (Srt.start sA.arr sA.lt) hr.1 hr.2 (by omega)
          have HRR := (show Hid _ from hr)
          clear hr
          go_wp2_with fail
          refine key.mono ?_
          rintro e0 w2 ⟨rfl, t0⟩
          rw [← HGG.out] at t0
          have hDV : w.heap.size ≠ V := by omega
          have w2c0 : w2.cell? ⟨w.heap.size, 0, none⟩ = some (.func (.func 22) #[] #[l1, l2]) := (t0.cell (p := ⟨w.heap.size, 0, none⟩) szA hDV).trans ca0
          have w2c1 : w2.cell? ⟨w.heap.size, 1, none⟩ = some (.func (.func sf) #[] #[s1, s2]) := (t0.cell (p := ⟨w.heap.size, 1, none⟩) szA hDV).trans ca1
          have u0 := sA.rebase t0
          clear key t0 ca0 ca1 sA
          by_cases hp : a < s ∧ s < mid
          · have hp1 : (a : Int) < s := by omega
            have hp2 : (s : Int) < mid := by omega
            have key := IH.out a s mid g w2 (by omega) hp.1 hp.2 (by omega) u0.arr u0.lt (HL.out.rebase u0) HBg.out HH.out.s1 HH.out.s2 HH.out.c1
            have k0 : w2.cell? ⟨w.heap.size, 0, none⟩ = some (.func (.func 22) #[] #[l1, l2]) := w2c0
            have k1 : w2.cell? ⟨w.heap.size, 1, none⟩ = some (.func (.func sf) #[] #[s1, s2]) := w2c1
            have HPP := (show Hid _ from hp)
            clear hp
            go_wp2_with fail
            refine key.mono ?_
            rintro e1 w3 ⟨rfl, h1, t1, y1, m1⟩
            have szD : w.heap.size < w2.heap.size := World.block_lt_of_cell? _ _ k0
            have hDV : w.heap.size ≠ V := by omega
            have w3c0 : w3.cell? ⟨w.heap.size, 0, none⟩ = some (.func (.func 22) #[] #[l1, l2]) := (t1.cell (p := ⟨w.heap.size, 0, none⟩) szD hDV).trans k0
            have w3c1 : w3.cell? ⟨w.heap.size, 1, none⟩ = some (.func (.func sf) #[] #[s1, s2]) := (t1.cell (p := ⟨w.heap.size, 1, none⟩) szD hDV).trans k1
            have u1 := u0.rebase t1
            clear key t1
            by_cases hq : mid < e ∧ e < b
            · have hq1 : (mid : Int) < e := by omega
              have hq2 : (e : Int) < b := by omega
              have k0 : w3.cell? ⟨w.heap.size, 0, none⟩ = some (.func (.func 22) #[] #[l1, l2]) := w3c0
              have k1 : w3.cell? ⟨w.heap.size, 1, none⟩ = some (.func (.func sf) #[] #[s1, s2]) := w3c1
              have key := IH.out mid e b h1 w3 (by omega) hq.1 hq.2 hbN u1.arr u1.lt (HL.out.rebase u1) y1 (sorted_keep m1 HH.out.s3 (by omega)) (sorted_keep m1 HH.out.s4 (by omega)) (cross_keep m1 HH.out.c2 (by omega))
              have HQ := (show Hid _ from hq)
              clear hq
              go_wp2_with fail
              all_goals
                refine key.mono ?_
                rintro e2 w4 ⟨rfl, h2, t2, y2, m2⟩
                have HR : Hid (SmPost LT V N f a b w (.returned (.tuple #[])) w4) := ⟨rfl, h2, u1.rebase t2, y2, merge_halves (by omega) (by omega) HH.out HG.out m1 m2⟩
                clear key
                go_wp2
                all_goals (go_end0; exact ⟨rfl, HR.out.2⟩)
            · have hm2 : Merged LT h1 h1 mid b := Merged.of (SameOn.refl _ _ _) (by
                rcases (by omega : e ≤ mid ∨ b ≤ e) with h | h
                · have := sorted_keep m1 HH.out.s4 (by omega)
                  intro i j x y z; exact this i j (by omega) y z
                · have := sorted_keep m1 HH.out.s3 (by omega)
                  intro i j x y z; exact this i j x y (by omega))
              have HR : Hid (SmPost LT V N f a b w (.returned (.tuple #[])) w3) := ⟨rfl, h1, u1, y1, merge_halves (by omega) (by omega) HH.out HG.out m1 hm2⟩
              by_cases hq1 : mid < e
              · have hq1I : (mid : Int) < e := by omega
                have hq2I : ¬ ((e : Int) < b) := by omega
                clear hq hq1 hm2
                go_wp2
                all_goals (go_end0; exact ⟨rfl, HR.out.2⟩)
              · have hq1I : ¬ ((mid : Int) < e) := by omega
                clear hq hq1 hm2
                go_wp2
                all_goals (go_end0; exact ⟨rfl, HR.out.2⟩)
          · have hm1 : Merged LT g g a mid := Merged.of (SameOn.refl _ _ _) (by
              rcases (by omega : s ≤ a ∨ mid ≤ s) with h | h
              · have := HH.out.s2
                intro i j x y z; exact this i j (by omega) y z
              · have := HH.out.s1
                intro i j x y z; exact this i j x y (by omega))
            have HPP : Hid ((¬ (a : Int) < s) ∨ ((a : Int) < s ∧ ¬ (s : Int) < mid)) := by show _ ∨ _; omega
            clear hp
            rcases HPP.out with hp1 | ⟨hp1, hp2⟩
            · by_cases hq : mid < e ∧ e < b
              · have hq1 : (mid : Int) < e := by omega
                have hq2 : (e : Int) < b := by omega
                have k0 : w2.cell? ⟨w.heap.size, 0, none⟩ = some (.func (.func 22) #[] #[l1, l2]) := w2c0
                have k1 : w2.cell? ⟨w.heap.size, 1, none⟩ = some (.func (.func sf) #[] #[s1, s2]) := w2c1
                have key := IH.out mid e b g w2 (by omega) hq.1 hq.2 hbN u0.arr u0.lt (HL.out.rebase u0) HBg.out (sorted_keep hm1 HH.out.s3 (by omega)) (sorted_keep hm1 HH.out.s4 (by omega)) (cross_keep hm1 HH.out.c2 (by omega))
                have HQ := (show Hid _ from hq)
                clear hq
                go_wp2_with fail
                all_goals
                  refine key.mono ?_
                  rintro e2 w4 ⟨rfl, h2, t2, y2, m2⟩
                  have HR : Hid (SmPost LT V N f a b w (.returned (.tuple #[])) w4) := ⟨rfl, h2, u0.rebase t2, y2, merge_halves (by omega) (by omega) HH.out HG.out hm1 m2⟩
                  clear key
                  go_wp2
                  all_goals (go_end0; exact ⟨rfl, HR.out.2⟩)
              · have hm2 : Merged LT g g mid b := Merged.of (SameOn.refl _ _ _) (by
                  rcases (by omega : e ≤ mid ∨ b ≤ e) with h | h
                  · have := sorted_keep hm1 HH.out.s4 (by omega)
                    intro i j x y z; exact this i j (by omega) y z
                  · have := sorted_keep hm1 HH.out.s3 (by omega)
                    intro i j x y z; exact this i j x y (by omega))
                have HR : Hid (SmPost LT V N f a b w (.returned (.tuple #[])) w2) := ⟨rfl, g, u0, HBg.out, merge_halves (by omega) (by omega) HH.out HG.out hm1 hm2⟩
                by_cases hq1 : mid < e
                · have hq1I : (mid : Int) < e := by omega
                  have hq2I : ¬ ((e : Int) < b) := by omega
                  clear hq hq1 hm2
                  go_wp2
                  all_goals (go_end0; exact ⟨rfl, HR.out.2⟩)
                · have hq1I : ¬ ((mid : Int) < e) := by omega
                  clear hq hq1 hm2
                  go_wp2
                  all_goals (go_end0; exact ⟨rfl, HR.out.2⟩)
            · by_cases hq : mid < e ∧ e < b
              · have hq1 : (mid : Int) < e := by omega
                have hq2 : (e : Int) < b := by omega
                have k0 : w2.cell? ⟨w.heap.size, 0, none⟩ = some (.func (.func 22) #[] #[l1, l2]) := w2c0
                have k1 : w2.cell? ⟨w.heap.size, 1, none⟩ = some (.func (.func sf) #[] #[s1, s2]) := w2c1
                have key := IH.out mid e b g w2 (by omega) hq.1 hq.2 hbN u0.arr u0.lt (HL.out.rebase u0) HBg.out (sorted_keep hm1 HH.out.s3 (by omega)) (sorted_keep hm1 HH.out.s4 (by omega)) (cross_keep hm1 HH.out.c2 (by omega))
                have HQ := (show Hid _ from hq)
                clear hq
                go_wp2_with fail
                all_goals
                  refine key.mono ?_
                  rintro e2 w4 ⟨rfl, h2, t2, y2, m2⟩
                  have HR : Hid (SmPost LT V N f a b w (.returned (.tuple #[])) w4) := ⟨rfl, h2, u0.rebase t2, y2, merge_halves (by omega) (by omega) HH.out HG.out hm1 m2⟩
                  clear key
                  go_wp2
                  all_goals (go_end0; exact ⟨rfl, HR.out.2⟩)
              · have hm2 : Merged LT g g mid b := Merged.of (SameOn.refl _ _ _) (by
                  rcases (by omega : e ≤ mid ∨ b ≤ e) with h | h
                  · have := sorted_keep hm1 HH.out.s4 (by omega)
                    intro i j x y z; exact this i j (by omega) y z
                  · have := sorted_keep hm1 HH.out.s3 (by omega)
                    intro i j x y z; exact this i j x y (by omega))
                have HR : Hid (SmPost LT V N f a b w (.returned (.tuple #[])) w2) := ⟨rfl, g, u0, HBg.out, merge_halves (by omega) (by omega) HH.out HG.out hm1 hm2⟩
                by_cases hq1 : mid < e
                · have hq1I : (mid : Int) < e := by omega
                  have hq2I : ¬ ((e : Int) < b) := by omega
                  clear hq hq1 hm2
                  go_wp2
                  all_goals (go_end0; exact ⟨rfl, HR.out.2⟩)
                · have hq1I : ¬ ((mid : Int) < e) := by omega
                  clear hq hq1 hm2
                  go_wp2
                  all_goals (go_end0; exact ⟨rfl, HR.out.2⟩)
        · have hgf : g = f := by
            rw [HGG.out]
            rcases (by omega : s = m ∨ m = e) with h | h
            · rw [h]; exact rot_none_l _ _ _
            · rw [h]; exact rot_none_r _ _ _
          rw [← hgf] at sA
          have HRR : Hid ((¬ (s : Int) < m) ∨ ((s : Int) < m ∧ ¬ (m : Int) < e)) := by show _ ∨ _; omega
          have WBc0 := ca0
          have WBc1 := ca1
          clear hr hgf ca0 ca1
          rcases HRR.out with hr1 | ⟨hr1, hr2⟩
          · by_cases hp : a < s ∧ s < mid
            · have hp1 : (a : Int) < s := by omega
              have hp2 : (s : Int) < mid := by omega
              have key := IH.out a s mid g WB (by omega) hp.1 hp.2 (by omega) sA.arr sA.lt (HL.out.rebase sA) HBg.out HH.out.s1 HH.out.s2 HH.out.c1
              have k0 : WB.cell? ⟨w.heap.size, 0, none⟩ = some (.func (.func 22) #[] #[l1, l2]) := WBc0
              have k1 : WB.cell? ⟨w.heap.size, 1, none⟩ = some (.func (.func sf) #[] #[s1, s2]) := WBc1
              have HPP := (show Hid _ from hp)
              clear hp
              go_wp2_with fail
              refine key.mono ?_
              rintro e1 w3 ⟨rfl, h1, t1, y1, m1⟩
              have szD : w.heap.size < WB.heap.size := World.block_lt_of_cell? _ _ k0
              have hDV : w.heap.size ≠ V := by omega
              have w3c0 : w3.cell? ⟨w.heap.size, 0, none⟩ = some (.func (.func 22) #[] #[l1, l2]) := (t1.cell (p := ⟨w.heap.size, 0, none⟩) szD hDV).trans k0
              have w3c1 : w3.cell? ⟨w.heap.size, 1, none⟩ = some (.func (.func sf) #[] #[s1, s2]) := (t1.cell (p := ⟨w.heap.size, 1, none⟩) szD hDV).trans k1
              have u1 := sA.rebase t1
              clear key t1
              by_cases hq : mid < e ∧ e < b
              · have hq1 : (mid : Int) < e := by omega
                have hq2 : (e : Int) < b := by omega
                have k0 : w3.cell? ⟨w.heap.size, 0, none⟩ = some (.func (.func 22) #[] #[l1, l2]) := w3c0
                have k1 : w3.cell? ⟨w.heap.size, 1, none⟩ = some (.func (.func sf) #[] #[s1, s2]) := w3c1
                have key := IH.out mid e b h1 w3 (by omega) hq.1 hq.2 hbN u1.arr u1.lt (HL.out.rebase u1) y1 (sorted_keep m1 HH.out.s3 (by omega)) (sorted_keep m1 HH.out.s4 (by omega)) (cross_keep m1 HH.out.c2 (by omega))
                have HQ := (show Hid _ from hq)
                clear hq
                go_wp2_with fail
                all_goals
                  refine key.mono ?_
                  rintro e2 w4 ⟨rfl, h2, t2, y2, m2⟩
                  have HR : Hid (SmPost LT V N f a b w (.returned (.tuple #[])) w4) := ⟨rfl, h2, u1.rebase t2, y2, merge_halves (by omega) (by omega) HH.out HG.out m1 m2⟩
                  clear key
                  go_wp2
                  all_goals (go_end0; exact ⟨rfl, HR.out.2⟩)
              · have hm2 : Merged LT h1 h1 mid b := Merged.of (SameOn.refl _ _ _) (by
                  rcases (by omega : e ≤ mid ∨ b ≤ e) with h | h
                  · have := sorted_keep m1 HH.out.s4 (by omega)
                    intro i j x y z; exact this i j (by omega) y z
                  · have := sorted_keep m1 HH.out.s3 (by omega)
                    intro i j x y z; exact this i j x y (by omega))
                have HR : Hid (SmPost LT V N f a b w (.returned (.tuple #[])) w3) := ⟨rfl, h1, u1, y1, merge_halves (by omega) (by omega) HH.out HG.out m1 hm2⟩
                by_cases hq1 : mid < e
                · have hq1I : (mid : Int) < e := by omega
                  have hq2I : ¬ ((e : Int) < b) := by omega
                  clear hq hq1 hm2
                  go_wp2
                  all_goals (go_end0; exact ⟨rfl, HR.out.2⟩)
                · have hq1I : ¬ ((mid : Int) < e) := by omega
                  clear hq hq1 hm2
                  go_wp2
                  all_goals (go_end0; exact ⟨rfl, HR.out.2⟩)
            · have hm1 : Merged LT g g a mid := Merged.of (SameOn.refl _ _ _) (by
                rcases (by omega : s ≤ a ∨ mid ≤ s) with h | h
                · have := HH.out.s2
                  intro i j x y z; exact this i j (by omega) y z
                · have := HH.out.s1
                  intro i j x y z; exact this i j x y (by omega))
              have HPP : Hid ((¬ (a : Int) < s) ∨ ((a : Int) < s ∧ ¬ (s : Int) < mid)) := by show _ ∨ _; omega
              clear hp
              rcases HPP.out with hp1 | ⟨hp1, hp2⟩
              · by_cases hq : mid < e ∧ e < b
                · have hq1 : (mid : Int) < e := by omega
                  have hq2 : (e : Int) < b := by omega
                  have k0 : WB.cell? ⟨w.heap.size, 0, none⟩ = some (.func (.func 22) #[] #[l1, l2]) := WBc0
                  have k1 : WB.cell? ⟨w.heap.size, 1, none⟩ = some (.func (.func sf) #[] #[s1, s2]) := WBc1
                  have key := IH.out mid e b g WB (by omega) hq.1 hq.2 hbN sA.arr sA.lt (HL.out.rebase sA) HBg.out (sorted_keep hm1 HH.out.s3 (by omega)) (sorted_keep hm1 HH.out.s4 (by omega)) (cross_keep hm1 HH.out.c2 (by omega))
                  have HQ := (show Hid _ from hq)
                  clear hq
                  go_wp2_with fail
                  all_goals
                    refine key.mono ?_
                    rintro e2 w4 ⟨rfl, h2, t2, y2, m2⟩
                    have HR : Hid (SmPost LT V N f a b w (.returned (.tuple #[])) w4) := ⟨rfl, h2, sA.rebase t2, y2, merge_halves (by omega) (by omega) HH.out HG.out hm1 m2⟩
                    clear key
                    go_wp2
                    all_goals (go_end0; exact ⟨rfl, HR.out.2⟩)
                · have hm2 : Merged LT g g mid b := Merged.of (SameOn.refl _ _ _) (by
                    rcases (by omega : e ≤ mid ∨ b ≤ e) with h | h
                    · have := sorted_keep hm1 HH.out.s4 (by omega)
                      intro i j x y z; exact this i j (by omega) y z
                    · have := sorted_keep hm1 HH.out.s3 (by omega)
                      intro i j x y z; exact this i j x y (by omega))
                  have HR : Hid (SmPost LT V N f a b w (.returned (.tuple #[])) WB) := ⟨rfl, g, sA, HBg.out, merge_halves (by omega) (by omega) HH.out HG.out hm1 hm2⟩
                  by_cases hq1 : mid < e
                  · have hq1I : (mid : Int) < e := by omega
                    have hq2I : ¬ ((e : Int) < b) := by omega
                    clear hq hq1 hm2
                    go_wp2
                    all_goals (go_end0; exact ⟨rfl, HR.out.2⟩)
                  · have hq1I : ¬ ((mid : Int) < e) := by omega
                    clear hq hq1 hm2
                    go_wp2
                    all_goals (go_end0; exact ⟨rfl, HR.out.2⟩)
              · by_cases hq : mid < e ∧ e < b
                · have hq1 : (mid : Int) < e := by omega
                  have hq2 : (e : Int) < b := by omega
                  have k0 : WB.cell? ⟨w.heap.size, 0, none⟩ = some (.func (.func 22) #[] #[l1, l2]) := WBc0
                  have k1 : WB.cell? ⟨w.heap.size, 1, none⟩ = some (.func (.func sf) #[] #[s1, s2]) := WBc1
                  have key := IH.out mid e b g WB (by omega) hq.1 hq.2 hbN sA.arr sA.lt (HL.out.rebase sA) HBg.out (sorted_keep hm1 HH.out.s3 (by omega)) (sorted_keep hm1 HH.out.s4 (by omega)) (cross_keep hm1 HH.out.c2 (by omega))
                  have HQ := (show Hid _ from hq)
                  clear hq
                  go_wp2_with fail
                  all_goals
                    refine key.mono ?_
                    rintro e2 w4 ⟨rfl, h2, t2, y2, m2⟩
                    have HR : Hid (SmPost LT V N f a b w (.returned (.tuple #[])) w4) := ⟨rfl, h2, sA.rebase t2, y2, merge_halves (by omega) (by omega) HH.out HG.out hm1 m2⟩
                    clear key
                    go_wp2
                    all_goals (go_end0; exact ⟨rfl, HR.out.2⟩)
                · have hm2 : Merged LT g g mid b := Merged.of (SameOn.refl _ _ _) (by
                    rcases (by omega : e ≤ mid ∨ b ≤ e) with h | h
                    · have := sorted_keep hm1 HH.out.s4 (by omega)
                      intro i j x y z; exact this i j (by omega) y z
                    · have := sorted_keep hm1 HH.out.s3 (by omega)
                      intro i j x y z; exact this i j x y (by omega))
                  have HR : Hid (SmPost LT V N f a b w (.returned (.tuple #[])) WB) := ⟨rfl, g, sA, HBg.out, merge_halves (by omega) (by omega) HH.out HG.out hm1 hm2⟩
                  by_cases hq1 : mid < e
                  · have hq1I : (mid : Int) < e := by omega
                    have hq2I : ¬ ((e : Int) < b) := by omega
                    clear hq hq1 hm2
                    go_wp2
                    all_goals (go_end0; exact ⟨rfl, HR.out.2⟩)
                  · have hq1I : ¬ ((mid : Int) < e) := by omega
                    clear hq hq1 hm2
                    go_wp2
                    all_goals (go_end0; exact ⟨rfl, HR.out.2⟩)
          · by_cases hp : a < s ∧ s < mid
            · have hp1 : (a : Int) < s := by omega
              have hp2 : (s : Int) < mid := by omega
              have key := IH.out a s mid g WB (by omega) hp.1 hp.2 (by omega) sA.arr sA.lt (HL.out.rebase sA) HBg.out HH.out.s1 HH.out.s2 HH.out.c1
              have k0 : WB.cell? ⟨w.heap.size, 0, none⟩ = some (.func (.func 22) #[] #[l1, l2]) := WBc0
              have k1 : WB.cell? ⟨w.heap.size, 1, none⟩ = some (.func (.func sf) #[] #[s1, s2]) := WBc1
              have HPP := (show Hid _ from hp)
              clear hp
              go_wp2_with fail
              refine key.mono ?_
              rintro e1 w3 ⟨rfl, h1, t1, y1, m1⟩
              have szD : w.heap.size < WB.heap.size := World.block_lt_of_cell? _ _ k0
              have hDV : w.heap.size ≠ V := by omega
              have w3c0 : w3.cell? ⟨w.heap.size, 0, none⟩ = some (.func (.func 22) #[] #[l1, l2]) := (t1.cell (p := ⟨w.heap.size, 0, none⟩) szD hDV).trans k0
              have w3c1 : w3.cell? ⟨w.heap.size, 1, none⟩ = some (.func (.func sf) #[] #[s1, s2]) := (t1.cell (p := ⟨w.heap.size, 1, none⟩) szD hDV).trans k1
              have u1 := sA.rebase t1
              clear key t1
              by_cases hq : mid < e ∧ e < b
              · have hq1 : (mid : Int) < e := by omega
                have hq2 : (e : Int) < b := by omega
                have k0 : w3.cell? ⟨w.heap.size, 0, none⟩ = some (.func (.func 22) #[] #[l1, l2]) := w3c0
                have k1 : w3.cell? ⟨w.heap.size, 1, none⟩ = some (.func (.func sf) #[] #[s1, s2]) := w3c1
                have key := IH.out mid e b h1 w3 (by omega) hq.1 hq.2 hbN u1.arr u1.lt (HL.out.rebase u1) y1 (sorted_keep m1 HH.out.s3 (by omega)) (sorted_keep m1 HH.out.s4 (by omega)) (cross_keep m1 HH.out.c2 (by omega))
                have HQ := (show Hid _ from hq)
                clear hq
                go_wp2_with fail
                all_goals
                  refine key.mono ?_
                  rintro e2 w4 ⟨rfl, h2, t2, y2, m2⟩
                  have HR : Hid (SmPost LT V N f a b w (.returned (.tuple #[])) w4) := ⟨rfl, h2, u1.rebase t2, y2, merge_halves (by omega) (by omega) HH.out HG.out m1 m2⟩
                  clear key
                  go_wp2
                  all_goals (go_end0; exact ⟨rfl, HR.out.2⟩)
              · have hm2 : Merged LT h1 h1 mid b := Merged.of (SameOn.refl _ _ _) (by
                  rcases (by omega : e ≤ mid ∨ b ≤ e) with h | h
                  · have := sorted_keep m1 HH.out.s4 (by omega)
                    intro i j x y z; exact this i j (by omega) y z
                  · have := sorted_keep m1 HH.out.s3 (by omega)
                    intro i j x y z; exact this i j x y (by omega))
                have HR : Hid (SmPost LT V N f a b w (.returned (.tuple #[])) w3) := ⟨rfl, h1, u1, y1, merge_halves (by omega) (by omega) HH.out HG.out m1 hm2⟩
                by_cases hq1 : mid < e
                · have hq1I : (mid : Int) < e := by omega
                  have hq2I : ¬ ((e : Int) < b) := by omega
                  clear hq hq1 hm2
                  go_wp2
                  all_goals (go_end0; exact ⟨rfl, HR.out.2⟩)
                · have hq1I : ¬ ((mid : Int) < e) := by omega
                  clear hq hq1 hm2
                  go_wp2
                  all_goals (go_end0; exact ⟨rfl, HR.out.2⟩)
            · have hm1 : Merged LT g g a mid := Merged.of (SameOn.refl _ _ _) (by
                rcases (by omega : s ≤ a ∨ mid ≤ s) with h | h
                · have := HH.out.s2
                  intro i j x y z; exact this i j (by omega) y z
                · have := HH.out.s1
                  intro i j x y z; exact this i j x y (by omega))
              have HPP : Hid ((¬ (a : Int) < s) ∨ ((a : Int) < s ∧ ¬ (s : Int) < mid)) := by show _ ∨ _; omega
              clear hp
              rcases HPP.out with hp1 | ⟨hp1, hp2⟩
              · by_cases hq : mid < e ∧ e < b
                · have hq1 : (mid : Int) < e := by omega
                  have hq2 : (e : Int) < b := by omega
                  have k0 : WB.cell? ⟨w.heap.size, 0, none⟩ = some (.func (.func 22) #[] #[l1, l2]) := WBc0
                  have k1 : WB.cell? ⟨w.heap.size, 1, none⟩ = some (.func (.func sf) #[] #[s1, s2]) := WBc1
                  have key := IH.out mid e b g WB (by omega) hq.1 hq.2 hbN sA.arr sA.lt (HL.out.rebase sA) HBg.out (sorted_keep hm1 HH.out.s3 (by omega)) (sorted_keep hm1 HH.out.s4 (by omega)) (cross_keep hm1 HH.out.c2 (by omega))
                  have HQ := (show Hid _ from hq)
                  clear hq
                  go_wp2_with fail
                  all_goals
                    refine key.mono ?_
                    rintro e2 w4 ⟨rfl, h2, t2, y2, m2⟩
                    have HR : Hid (SmPost LT V N f a b w (.returned (.tuple #[])) w4) := ⟨rfl, h2, sA.rebase t2, y2, merge_halves (by omega) (by omega) HH.out HG.out hm1 m2⟩
                    clear key
                    go_wp2
                    all_goals (go_end0; exact ⟨rfl, HR.out.2⟩)
                · have hm2 : Merged LT g g mid b := Merged.of (SameOn.refl _ _ _) (by
                    rcases (by omega : e ≤ mid ∨ b ≤ e) with h | h
                    · have := sorted_keep hm1 HH.out.s4 (by omega)
                      intro i j x y z; exact this i j (by omega) y z
                    · have := sorted_keep hm1 HH.out.s3 (by omega)
                      intro i j x y z; exact this i j x y (by omega))
                  have HR : Hid (SmPost LT V N f a b w (.returned (.tuple #[])) WB) := ⟨rfl, g, sA, HBg.out, merge_halves (by omega) (by omega) HH.out HG.out hm1 hm2⟩
                  by_cases hq1 : mid < e
                  · have hq1I : (mid : Int) < e := by omega
                    have hq2I : ¬ ((e : Int) < b) := by omega
                    clear hq hq1 hm2
                    go_wp2
                    all_goals (go_end0; exact ⟨rfl, HR.out.2⟩)
                  · have hq1I : ¬ ((mid : Int) < e) := by omega
                    clear hq hq1 hm2
                    go_wp2
                    all_goals (go_end0; exact ⟨rfl, HR.out.2⟩)
              · by_cases hq : mid < e ∧ e < b
                · have hq1 : (mid : Int) < e := by omega
                  have hq2 : (e : Int) < b := by omega
                  have k0 : WB.cell? ⟨w.heap.size, 0, none⟩ = some (.func (.func 22) #[] #[l1, l2]) := WBc0
                  have k1 : WB.cell? ⟨w.heap.size, 1, none⟩ = some (.func (.func sf) #[] #[s1, s2]) := WBc1
                  have key := IH.out mid e b g WB (by omega) hq.1 hq.2 hbN sA.arr sA.lt (HL.out.rebase sA) HBg.out (sorted_keep hm1 HH.out.s3 (by omega)) (sorted_keep hm1 HH.out.s4 (by omega)) (cross_keep hm1 HH.out.c2 (by omega))
                  have HQ := (show Hid _ from hq)
                  clear hq
                  go_wp2_with fail
                  all_goals
                    refine key.mono ?_
                    rintro e2 w4 ⟨rfl, h2, t2, y2, m2⟩
                    have HR : Hid (SmPost LT V N f a b w (.returned (.tuple #[])) w4) := ⟨rfl, h2, sA.rebase t2, y2, merge_halves (by omega) (by omega) HH.out HG.out hm1 m2⟩
                    clear key
                    go_wp2
                    all_goals (go_end0; exact ⟨rfl, HR.out.2⟩)
                · have hm2 : Merged LT g g mid b := Merged.of (SameOn.refl _ _ _) (by
                    rcases (by omega : e ≤ mid ∨ b ≤ e) with h | h
                    · have := sorted_keep hm1 HH.out.s4 (by omega)
                      intro i j x y z; exact this i j (by omega) y z
                    · have := sorted_keep hm1 HH.out.s3 (by omega)
                      intro i j x y z; exact this i j x y (by omega))
                  have HR : Hid (SmPost LT V N f a b w (.returned (.tuple #[])) WB) := ⟨rfl, g, sA, HBg.out, merge_halves (by omega) (by omega) HH.out HG.out hm1 hm2⟩
                  by_cases hq1 : mid < e
                  · have hq1I : (mid : Int) < e := by omega
                    have hq2I : ¬ ((e : Int) < b) := by omega
                    clear hq hq1 hm2
                    go_wp2
                    all_goals (go_end0; exact ⟨rfl, HR.out.2⟩)
                  · have hq1I : ¬ ((mid : Int) < e) := by omega
                    clear hq hq1 hm2
                    go_wp2
                    all_goals (go_end0; exact ⟨rfl, HR.out.2⟩)
end Go.Proofs.Ybulkcmdi
