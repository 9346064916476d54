import Derived.Test.YbulkcmdiScript
namespace Go.Proofs.Ybulkcmdi
open Go.RowKit
set_option linter.unusedVariables false
set_option linter.unusedSimpArgs false

def tot (PS : List (List Int)) (k : Nat) : Nat := ((PS.take k).map List.length).sum
def cat (PS : List (List Int)) (k : Nat) : List Int := (PS.take k).flatten
theorem take_next (PS : List (List Int)) (k : Nat) (h : k < PS.length) : PS.take (k + 1) = PS.take k ++ [PS.getD k []] := by
  rw [List.take_add_one]; simp [h]
theorem tot_zero (PS : List (List Int)) : tot PS 0 = 0 := by simp [tot]
theorem cat_zero (PS : List (List Int)) : cat PS 0 = [] := by simp [cat]
theorem tot_succ (PS : List (List Int)) (k : Nat) (h : k < PS.length) : tot PS (k + 1) = tot PS k + (PS.getD k []).length := by
  unfold tot; rw [take_next PS k h]; simp
theorem cat_succ (PS : List (List Int)) (k : Nat) (h : k < PS.length) : cat PS (k + 1) = cat PS k ++ PS.getD k [] := by
  unfold cat; rw [take_next PS k h]; simp
theorem cat_len (PS : List (List Int)) (k : Nat) : (cat PS k).length = tot PS k := by
  unfold cat tot; rw [List.length_flatten]
theorem tot_mono (PS : List (List Int)) (k : Nat) : ∀ n, k ≤ n → n ≤ PS.length → tot PS k ≤ tot PS n := by
  intro n hk
  induction hk with
  | refl => intro _; exact Nat.le_refl _
  | step h ih => intro hn; rw [Nat.succ_eq_add_one, tot_succ PS _ (by omega)]; have := ih (by omega); omega

structure Pcs (w : World) (a1 : Option Addr) (PS : List (List Int)) (ao : Nat → Option Addr) (cp : Nat → Nat) : Prop where
  cell : ∀ i, i < PS.length → ∃ x, a1 = some x ∧ w.cell? (x.add i) = some (.slice (ao i) (PS.getD i []).length (cp i))
  rd : ∀ i, i < PS.length → Rd w (ao i) (PS.getD i [])
  nn : ∀ i, i < PS.length → ao i = none → cp i = 0
  len : ∀ i, i < PS.length → (PS.getD i []).length ≤ 140737488355328
theorem Pcs.old {w w' : World} {a1 : Option Addr} {PS : List (List Int)} {ao : Nat → Option Addr} {cp : Nat → Nat} (h : Pcs w a1 PS ao cp) (hb : Below w.heap.size w w') : Pcs w' a1 PS ao cp :=
  ⟨fun i hi => by obtain ⟨x, hx, hc⟩ := h.cell i hi; exact ⟨x, hx, (hb.cell (World.block_lt_of_cell? _ _ hc)).trans hc⟩, fun i hi => (h.rd i hi).old hb, h.nn, h.len⟩
/-- pieces[k], read. -/
theorem ix26 (a1 : Option Addr) (n c1 k : Nat) (x : Addr) (hx : a1 = some x) (hk : k < n) (w : World) : Sem.run Yba.prog (Instr.indexAt 26 (.slice a1 n c1) (.int .i64 (k : Int))) w = .ok (.pointer (some (x.add k))) w := by
  rw [hx]
  have hk0 : (0 : Int) ≤ k := by omega
  have hk1 : (k : Int) < n := by omega
  go_simp

/-- The second loop's relation: k pieces are coded. -/
structure Lp2 (C M base : Nat) (top : Int) (ds pad : List Int) (PS : List (List Int)) (k : Nat) (w0 w : World) : Prop where
  cmp : ∃ v, Cmp C base (.iface 27 (.pointer (some ⟨M, 0, none⟩))) ds.length (tot PS k : Int) (if k = 0 then 0 else top * 16777216) (ds ++ pad ++ cat PS k) v w
  mod : Mod M top k w
  bel : Below base w0 w
theorem Lp2.start {C M base : Nat} {top : Int} {ds pad : List Int} (PS : List (List Int)) {w0 w : World} {v : Value} (h : Cmp C base (.iface 27 (.pointer (some ⟨M, 0, none⟩))) ds.length 0 0 (ds ++ pad) v w) (hm : Mod M top 0 w) (hb : Below base w0 w) : Lp2 C M base top ds pad PS 0 w0 w :=
  ⟨⟨v, by rw [tot_zero, cat_zero, if_pos rfl, List.append_nil]; exact h⟩, hm, hb⟩
theorem Lp2.next {C M base : Nat} {top : Int} {ds pad : List Int} {PS : List (List Int)} {k : Nat} {w0 w w' : World} {v : Value} (hk : k < PS.length) (hb : Below base w0 w) (hbase : base ≤ w.heap.size) (hMb : base ≤ M)
    (h : Cmp C base (.iface 27 (.pointer (some ⟨M, 0, none⟩))) ds.length ((tot PS k : Int) + (PS.getD k []).length) (top * 16777216) (ds ++ pad ++ cat PS k ++ PS.getD k []) v w') (hm : Mod M top (k + 1) w') (hf : Fr (May C M base w) w w') : Lp2 C M base top ds pad PS (k + 1) w0 w' := by
  refine ⟨⟨v, ?_⟩, hm, hb.trans (hf.below hbase ?_)⟩
  · rw [tot_succ PS k hk, cat_succ PS k hk, if_neg (by omega), ← List.append_assoc]
    simpa using h
  · rintro j (rfl | rfl | ⟨hj, _⟩)
    · exact h.hbC
    · exact hMb
    · exact hj

set_option maxHeartbeats 3200000 in
set_option maxRecDepth 20000 in
theorem script_u (a0 a1 : Option Addr) (c0 c1 : Nat) (ds : List Int) (PS : List (List Int)) (ao : Nat → Option Addr) (cp : Nat → Nat) (top : Int) (w : World) (h0 : 0 ≤ top) (h1 : top ≤ 255) (hd : ds.length ≤ 1024) (hp : PS.length ≤ 256)
    (rd0 : Rd w a0 ds) (n0 : a0 = none → c0 = 0) (hP : Pcs w a1 PS ao cp) :
    Calls Yba.prog 4 #[.slice a0 ds.length c0, .slice a1 PS.length c1, .int .u8 top] w fun e w' => e = .returned (.bool true) ∧ Below w.heap.size w w' := by
  have hle0 : ¬ ((1024 : Int) < ds.length) := by omega
  have hle1 : ¬ ((256 : Int) < PS.length) := by omega
  have HP : Hid (Pcs w a1 PS ao cp) := hP
  have HRD : Hid (Rd w a0 ds) := rd0
  clear hP rd0
  obtain ⟨pad, hpad⟩ : ∃ pad : List Int, pad = List.replicate 10 0 := ⟨_, rfl⟩
  have hpl : pad.length = 10 := by rw [hpad]; rfl
  have HPAD : Hid (pad = List.replicate 10 0) := hpad
  clear hpad
  go_enter Yba.func4, Yba.ntmps4
  go_wp2
  go_loopw [7, 29] (fun t i wr => ∃ k : Nat, k ≤ PS.length ∧ i = .int .i64 k ∧ t = .int .i64 (tot PS k : Int) ∧ tot PS k ≤ 4096 ∧ wr = w) (fun _ i _ => PS.length - (intOf i).toNat)
  case atStart => exact ⟨0, Nat.zero_le _, rfl, by rw [tot_zero]; rfl, by rw [tot_zero]; omega, rfl⟩
  case round =>
    obtain ⟨k, hk, rfl, rfl, ht, hwr⟩ := hrel
    obtain rfl : w = wr := hwr.symm
    clear hwr
    by_cases hlt : k < PS.length
    · obtain ⟨x, hx, hc⟩ := HP.out.cell k hlt
      have hix := ix26 a1 PS.length c1 k x hx hlt
      have hln := HP.out.len k hlt
      have hts := tot_succ PS k hlt
      have htsI : (tot PS k : Int) + ((PS.getD k []).length : Int) = (tot PS (k + 1) : Int) := by omega
      have hb : (tot PS (k + 1) : Int) ≤ 140737488360000 := by omega
      have HTS := (show Hid _ from hts)
      clear hx hts
      generalize hT1 : tot PS (k + 1) = T1 at *
      generalize hL1 : (PS.getD k []).length = L1 at *
      generalize hT0 : tot PS k = T0 at *
      by_cases hbig : (4096 : Int) < T1
      · go_wp2
        go_ret
        exact ⟨rfl, Below.refl _ _⟩
      · go_wp2
        go_roundw
        case rel => exact ⟨k + 1, by omega, by go_num, by rw [hT1], by rw [hT1]; omega, trivial⟩
        case measure => simp [intOf]; omega
    · obtain rfl : k = PS.length := by omega
      clear hlt hk
      generalize hTT : tot PS PS.length = TT at *
      have HTT := (show Hid _ from hTT)
      clear hTT
      have key := clone_u a0 c0 ds w.heap.size w (by omega) HRD.out n0 (Nat.le_refl _)
      go_wp2_with fail
      refine key.mono ?_
      clear key
      rintro e w1 ⟨vd, rfl, od, bd⟩
      have sz1 := bd.size
      obtain ⟨aod, nd, cd, rfl⟩ := od.slice
      have hM0 : Mod w1.heap.size top 0 (w1.alloc (.cells #[.int .u8 top, .int .i64 0] 29)) := ⟨TypAt.new _ _ _, World.cell?_alloc_new _ _ _ _, World.cell?_alloc_new _ _ _ _⟩
      have key := newc_u (.slice aod nd cd) ds pad w.heap.size (.iface 27 (.pointer (some ⟨w1.heap.size, 0, none⟩))) 27 (.pointer (some ⟨w1.heap.size, 0, none⟩)) rfl (w1.alloc (.cells #[.int .u8 top, .int .i64 0] 29)) (od.alloc _) (by omega) (by simp; omega) HPAD.out
      go_wp2_with fail
      refine key.mono ?_
      clear key
      rintro e w3 ⟨C, v3, rfl, hC3, f3⟩
      have hM3 : Mod w1.heap.size top 0 w3 := by
        have hne := (od.alloc (.cells #[.int .u8 top, .int .i64 0] 29)).ne hM0.typ (by decide)
        exact ⟨hM0.typ.fr f3 hne, (f3.cell (p := ⟨_, 0, none⟩) hM0.typ.lt hne).trans hM0.c0, (f3.cell (p := ⟨_, 1, none⟩) hM0.typ.lt hne).trans hM0.c1⟩
      have b3 : Below w.heap.size w w3 := (bd.alloc sz1 _).trans (f3.below (by simp; omega) (fun k hk => (od.lt k hk).1))
      clear f3 hM0 od bd
      generalize hMM : w1.heap.size = M at *
      have hMb : w.heap.size ≤ M := by omega
      clear hMM
      have hL3 : Lp2 C M w.heap.size top ds pad PS 0 w w3 := Lp2.start PS hC3 hM3 b3
      clear hC3 hM3 b3
      go_wp2
      go_loopw [51] (fun i w4 => ∃ k : Nat, k ≤ PS.length ∧ i = .int .i64 k ∧ Lp2 C M w.heap.size top ds pad PS k w w4) (fun i _ => PS.length - (intOf i).toNat)
      case atStart => exact ⟨0, Nat.zero_le _, rfl, hL3⟩
      case round =>
        obtain ⟨k, hk, rfl, hL⟩ := hrel
        by_cases hlt : k < PS.length
        · obtain ⟨v4, hc4⟩ := hL.cmp
          have hm4 := hL.mod
          have b4 := hL.bel
          have sz4 := b4.size
          obtain ⟨x, hx, hc⟩ := (HP.out.old b4).cell k hlt
          have hix := ix26 a1 PS.length c1 k x hx hlt
          have htm := tot_mono PS (k + 1) PS.length (by omega) (Nat.le_refl _)
          have hts := tot_succ PS k hlt
          rw [HTT.out] at htm
          have hkI : (k : Int) ≤ 100000 := by omega
          obtain ⟨ys, hys⟩ : ∃ ys, ys = PS.getD k [] := ⟨_, rfl⟩
          obtain ⟨T0, hT0⟩ : ∃ T0, T0 = tot PS k := ⟨_, rfl⟩
          have hrk := (HP.out.rd k hlt).old b4
          have hnn := HP.out.nn k hlt
          have hll : (ds ++ pad ++ cat PS k).length + ys.length ≤ 100000 := by rw [hys]; simp only [List.length_append, cat_len]; omega
          rw [← hys] at hc hrk hts
          rw [← hT0] at hts hc4
          have htk0 : (0 : Int) ≤ (T0 : Int) := by omega
          have htk1 : (T0 : Int) ≤ 100000 := by omega
          obtain ⟨low, hlow⟩ : ∃ low, low = if k = 0 then 0 else top * 16777216 := ⟨_, rfl⟩
          rw [← hlow] at hc4
          have HC4 : Hid (Cmp C w.heap.size (.iface 27 (.pointer (some ⟨M, 0, none⟩))) ds.length (T0 : Int) low (ds ++ pad ++ cat PS k) v4 wr) := hc4
          have HM4 : Hid (Mod M top k wr) := hm4
          have HRK : Hid (Rd wr (ao k) ys) := hrk
          have HLL : Hid ((ds ++ pad ++ cat PS k).length + ys.length ≤ 100000) := hll
          have HYS : Hid (ys = PS.getD k []) := hys
          have HT0 : Hid (T0 = tot PS k) := hT0
          clear hx hc4 hm4 hL hL3 htm hts hll hys hT0 hlow hrk
          go_wp2_with fail
          refine (Code_u C M w.heap.size ds.length k (T0 : Int) low top (ds ++ pad ++ cat PS k) ys v4 (ao k) (cp k) wr h0 h1 hkI htk0 htk1 HC4.out HM4.out HRK.out hnn HLL.out sz4).mono ?_
          rintro e w5 ⟨rfl, v5, hc5, hm5, f5⟩
          rw [HT0.out, HYS.out] at hc5
          have hL5 := Lp2.next hlt b4 sz4 hMb hc5 hm5 f5
          clear hc5 hm5 f5
          go_wp2
          go_roundw
          case rel => exact ⟨k + 1, by omega, by go_num, hL5⟩
          case measure => simp [intOf]; omega
        · obtain rfl : k = PS.length := by omega
          clear hlt hk hL3
          obtain ⟨v4, hc4⟩ := hL.cmp
          have hm4 := hL.mod
          have b4 := hL.bel
          have sz4 := b4.size
          rw [HTT.out] at hc4
          obtain ⟨ct, hct⟩ : ∃ ct, ct = cat PS PS.length := ⟨_, rfl⟩
          have hctl : ct.length = TT := by rw [hct, cat_len]; exact HTT.out
          rw [← hct] at hc4
          obtain ⟨tp, htp⟩ : ∃ tp : Int, tp = if PS.length = 0 then 0 else top := ⟨_, rfl⟩
          have htp0 : 0 ≤ tp := by rw [htp]; split <;> omega
          have htp1 : tp ≤ 255 := by rw [htp]; split <;> omega
          have hlow : (if PS.length = 0 then 0 else top * 16777216) = tp * 16777216 := by rw [htp]; split <;> omega
          rw [hlow] at hc4
          obtain ⟨R, hR⟩ : ∃ R, R = ds ++ uv 9 TT ++ (ct ++ if tp = 0 then [] else [tp]) := ⟨_, rfl⟩
          have hRl : R.length ≤ 10000 := by
            have := uv_len 9 TT
            rw [hR]; split <;> simp <;> omega
          have key := finish_u C 42 w.heap.size v4 ds pad ct ds.length TT tp (tp * 16777216) 4294967295 wr htp0 htp1 rfl (by omega) hc4.typ (by decide) hc4.c0 hc4.c1 hc4.c2 hc4.c4 (TT : Int) rfl hc4.c5 hc4.own rfl hpl (by omega) sz4 R hR
          have tC4 := hc4.typ
          have hbC := hc4.hbC
          have HR : Hid (R = ds ++ uv 9 TT ++ (ct ++ if tp = 0 then [] else [tp])) := hR
          have HTP : Hid (tp = if PS.length = 0 then 0 else top) := htp
          have HCT : Hid (ct = cat PS PS.length) := hct
          clear hR htp hct hlow hc4 hL
          go_wp2_with fail
          refine key.mono ?_
          clear key
          rintro e w5 ⟨y, n, cap, rfl, hn, hrd, ⟨hy1, hy2⟩, hF, tC5, k0, k1, k2⟩
          have b5 : Below w.heap.size w w5 := b4.trans (hF.below sz4 (by rintro k (rfl | ⟨h, _⟩); exact hbC; exact h))
          have sz5 := b5.size
          have hnM : ¬ (M = C ∨ (w.heap.size ≤ M ∧ TypAt wr M 5)) := by
            rintro (h | ⟨_, h⟩)
            · exact typ_ne hm4.typ tC4 (by decide) h
            · exact typ_ne hm4.typ h (by decide) rfl
          have hM5 : Mod M top PS.length w5 := ⟨hm4.typ.fr hF hnM, (hF.cell (p := ⟨M, 0, none⟩) hm4.typ.lt hnM).trans hm4.c0, (hF.cell (p := ⟨M, 1, none⟩) hm4.typ.lt hnM).trans hm4.c1⟩
          have hMl := hM5.typ.lt
          have hMc := hM5.c1
          have hCl := tC5.lt
          clear hF hm4 b4 tC4 hnM hM5 tC5
          subst hn
          have hb6 : Below w5.heap.size w5 (w5.alloc (.cells (Array.replicate 0 (.int .u8 0)) 5)) := (Below.refl _ _).alloc (Nat.le_refl _) _
          go_wp2_with (first | (at_builtin; refine wpList_append_bytes rfl _ _ rfl w5.heap.size _ [] rfl (by exact own_made w5 w5.heap.size 0 (Nat.le_refl _) (by omega)) a0 ds.length c0 ds rfl rfl (by exact HRD.out.old (b5.trans (hb6.mono sz5))) n0 (by simp; omega) (by simp) w5 (by exact hb6) ?_))
          intro v6 w6 o6' b6 _
          have o6 : Own w6 w5.heap.size v6 ds := by simpa using o6'
          clear o6'
          have sz6 := b6.size
          obtain ⟨us, hus⟩ : ∃ us, us = uv 9 TT := ⟨_, rfl⟩
          have hul : us.length ≤ 10 := by rw [hus]; exact (uv_len 9 TT).2
          have HU : Hid (us = uv 9 TT) := hus
          have key := varint_v w5.heap.size v6 ds TT (TT : Int) rfl w6 o6 (by omega) (by omega) sz6 us hus
          clear hus
          go_wp2_with fail
          refine key.mono ?_
          clear key
          rintro e w7 ⟨v7, rfl, o7, b7⟩
          have b67 := b6.trans b7
          clear o6 b6 b7 sz6
          go_wp2
          go_loopw [16, 70] (fun v i w8 => ∃ k : Nat, k ≤ PS.length ∧ i = .int .i64 k ∧ Own w8 w5.heap.size v (ds ++ us ++ cat PS k) ∧ Below w5.heap.size w5 w8) (fun _ i _ => PS.length - (intOf i).toNat)
          case atStart => exact ⟨0, Nat.zero_le _, rfl, by rw [cat_zero, List.append_nil]; exact o7, b67⟩
          case round =>
            obtain ⟨k, hk, rfl, o8, b8⟩ := hrel
            have sz8 := b8.size
            by_cases hlt : k < PS.length
            · have bw8 := b5.trans (b8.mono sz5)
              obtain ⟨x, hx, hc⟩ := (HP.out.old bw8).cell k hlt
              have hix := ix26 a1 PS.length c1 k x hx hlt
              have htm := tot_mono PS (k + 1) PS.length (by omega) (Nat.le_refl _)
              have hts := tot_succ PS k hlt
              rw [HTT.out] at htm
              obtain ⟨ys, hys⟩ : ∃ ys, ys = PS.getD k [] := ⟨_, rfl⟩
              have hrk := (HP.out.rd k hlt).old bw8
              have hnn := HP.out.nn k hlt
              have hll : (ds ++ us ++ cat PS k).length + ys.length ≤ 1000000 := by rw [hys]; simp only [List.length_append, cat_len]; omega
              rw [← hys] at hc hrk hts
              have HRK : Hid (Rd _ (ao k) ys) := hrk
              have HYS : Hid (ys = PS.getD k []) := hys
              have HLL : Hid ((ds ++ us ++ cat PS k).length + ys.length ≤ 1000000) := hll
              clear hx htm hts hrk hys hll o7
              go_wp2_with (first | (at_builtin; refine wpList_append_bytes rfl _ _ rfl w5.heap.size _ (ds ++ us ++ cat PS k) rfl o8 (ao k) ys.length (cp k) ys rfl rfl HRK.out hnn HLL.out sz8 w5 b8 ?_))
              intro v9 w9 o9 b9 _
              have o9' : Own w9 w5.heap.size v9 (ds ++ us ++ cat PS (k + 1)) := by rw [cat_succ PS k hlt, ← HYS.out]; simpa using o9
              clear o9 o8
              go_wp2
              go_roundw
              case rel => exact ⟨k + 1, by omega, by go_num, o9', b9⟩
              case measure => simp [intOf]; omega
            · obtain rfl : k = PS.length := by omega
              rw [← HCT.out] at o8
              clear hlt hk o7 b67
              have bw8 := b5.trans (b8.mono sz5)
              by_cases hn0 : PS.length = 0
              · have hg0 : ¬ ((0 : Int) < PS.length) := by omega
                have e9 : ds ++ us ++ ct = R := by rw [HR.out, HTP.out, if_pos hn0, if_pos rfl, ← HU.out, List.append_nil]
                rw [e9] at o8
                clear e9
                have hMc9 := (b8.cell (p := ⟨M, 1, none⟩) hMl).trans hMc
                have k09 := (b8.cell (p := ⟨C, 0, none⟩) hCl).trans k0
                have k19 := (b8.cell (p := ⟨C, 1, none⟩) hCl).trans k1
                have k29 := (b8.cell (p := ⟨C, 2, none⟩) hCl).trans k2
                have hrd9 := hrd.below b8 (fun x hx => by cases hx; exact hy2)
                have bw9 := b5.trans (b8.mono sz5)
                obtain ⟨ao9, m9, c9, rfl⟩ := o8.slice
                have hr9 := o8.rd
                obtain ⟨rfl, hr9, _⟩ := hr9
                have hnq := fun w => run_neq_slice_nil_any (P := Yba.prog) w 22 5 none 0 0 0 0 Yba.underlying22
                have HRA := (show Hid _ from hrd9)
                have HRB := (show Hid _ from hr9)
                clear o8 hrd9 hr9
                go_wp2_with fail
                refine (ceq_u (some y) ao9 R.length cap c9 R _ rfl (by omega) HRA.out HRB.out).mono ?_
                rintro e w10 ⟨rfl, m, rfl⟩
                go_wp2
                go_ret
                exact ⟨rfl, below_drewN bw9 _⟩
              · have hg0 : (0 : Int) < PS.length := by omega
                by_cases ht0 : top = 0
                · have hte : (top == 0) = true := by simp [ht0]
                  have e9 : ds ++ us ++ ct = R := by rw [HR.out, HTP.out, if_neg hn0, if_pos ht0, ← HU.out, List.append_nil]
                  rw [e9] at o8
                  clear e9 ht0 hn0
                  have hMc9 := (b8.cell (p := ⟨M, 1, none⟩) hMl).trans hMc
                  have k09 := (b8.cell (p := ⟨C, 0, none⟩) hCl).trans k0
                  have k19 := (b8.cell (p := ⟨C, 1, none⟩) hCl).trans k1
                  have k29 := (b8.cell (p := ⟨C, 2, none⟩) hCl).trans k2
                  have hrd9 := hrd.below b8 (fun x hx => by cases hx; exact hy2)
                  have bw9 := b5.trans (b8.mono sz5)
                  obtain ⟨ao9, m9, c9, rfl⟩ := o8.slice
                  have hr9 := o8.rd
                  obtain ⟨rfl, hr9, _⟩ := hr9
                  have hnq := fun w => run_neq_slice_nil_any (P := Yba.prog) w 22 5 none 0 0 0 0 Yba.underlying22
                  have HRA := (show Hid _ from hrd9)
                  have HRB := (show Hid _ from hr9)
                  clear o8 hrd9 hr9
                  go_wp2_with fail
                  refine (ceq_u (some y) ao9 R.length cap c9 R _ rfl (by omega) HRA.out HRB.out).mono ?_
                  rintro e w10 ⟨rfl, m, rfl⟩
                  go_wp2
                  go_ret
                  exact ⟨rfl, below_drewN bw9 _⟩
                · have hte : (top == 0) = false := by simp [ht0]
                  have HE : Hid (R = ds ++ us ++ ct ++ [top]) := by show R = _; rw [HR.out, HTP.out, if_neg hn0, if_neg ht0, ← HU.out]; simp
                  clear ht0 hn0
                  have hlu : (ds ++ us ++ ct).length ≤ 10000 := by simp; omega
                  go_wp2_with (first | (at_builtin; refine wpList_append_bytes rfl _ _ rfl w5.heap.size _ (ds ++ us ++ ct) rfl (o8.alloc _) (some ⟨wr.heap.size, 0, none⟩) 1 1 [top] rfl rfl ?c1 (fun h => by cases h) (by omega) (by simp; omega) w5 (b8.alloc sz8 _) ?_))
                  case c1 =>
                    intro j hj
                    have : j = 0 := by simpa using hj
                    subst this
                    exact ⟨_, rfl, by simp [Addr.add]⟩
                  · intro v9 w9 o9' b9 _
                    have o9 : Own w9 w5.heap.size v9 R := by rw [HE.out]; first | exact o9' | (simpa using o9')
                    clear o9' o8
                    have hMc9 := (b9.cell (p := ⟨M, 1, none⟩) hMl).trans hMc
                    have k09 := (b9.cell (p := ⟨C, 0, none⟩) hCl).trans k0
                    have k19 := (b9.cell (p := ⟨C, 1, none⟩) hCl).trans k1
                    have k29 := (b9.cell (p := ⟨C, 2, none⟩) hCl).trans k2
                    have hrd9 := hrd.below b9 (fun x hx => by cases hx; exact hy2)
                    have bw9 := b5.trans (b9.mono sz5)
                    obtain ⟨ao9, m9, c9, rfl⟩ := o9.slice
                    have hr9 := o9.rd
                    obtain ⟨rfl, hr9, _⟩ := hr9
                    have hnq := fun w => run_neq_slice_nil_any (P := Yba.prog) w 22 5 none 0 0 0 0 Yba.underlying22
                    have HRA := (show Hid _ from hrd9)
                    have HRB := (show Hid _ from hr9)
                    clear o9 hrd9 hr9
                    go_wp2_with fail
                    refine (ceq_u (some y) ao9 R.length cap c9 R _ rfl (by omega) HRA.out HRB.out).mono ?_
                    rintro e w10 ⟨rfl, m, rfl⟩
                    go_wp2
                    go_ret
                    exact ⟨rfl, below_drewN bw9 _⟩
end Go.Proofs.Ybulkcmdi
