import Derived.Test.YbulkcmcuLawBase
namespace Go.Proofs.Ybulkcmcu
open Go.RowKit
set_option linter.unusedVariables false
set_option linter.unusedSimpArgs false

set_option maxHeartbeats 1600000 in
set_option maxRecDepth 100000 in
theorem law_good (a0 : Option Addr) (cap0 : Nat) (zs : List Int) (a1 a2 a4 a5 : Int) (a3 a6 : Bool) (w : World) (hl : zs.length ≤ 1024) (hby : ∀ j, 0 ≤ zs.getD j 0 ∧ zs.getD j 0 < 256)
    (hrow : ∀ j, j < zs.length → ∃ x, a0 = some x ∧ w.cell? (x.add j) = some (.int .u8 (zs.getD j 0)))
    (b10 : 0 ≤ a1) (b11 : a1 ≤ 65535) (b40 : 0 ≤ a4) (b41 : a4 ≤ 255) (b50 : 0 ≤ a5) (b51 : a5 ≤ 255)
    (o l m0 t : Nat) (ho : a1 % ((zs.length : Int) * 8 + 1) = o) (hll : a4 % 64 = l) (hmm : a5 % (64 - (l : Int)) = m0) (htt : 64 - (l : Int) - (1 + m0) = t) (hol : o ≤ zs.length * 8) (hl64 : l < 64) (hm64 : m0 < 64)
    (nl mv nm nt : Nat) (hnl : rV zs (rO zs o 1) 6 = nl) (hmv : rV zs (rO zs (rO zs o 1) 6) 6 = mv) (hl6 : nl < 64) (hm6 : mv < 64)
    (hz : (((mv : Int) == 0) = true ∧ nm = 64) ∨ (((mv : Int) == 0) = false ∧ nm = mv)) (hm1 : 1 ≤ nm) (hfit : nl + nm + nt = 64) (e1 : (64 : Int) - nl - nm = nt) (e3 : ¬ (64 < (nl : Int) + nm)) (hc : rV zs o 1 = 1) :
    Calls Yba.prog 3 #[.slice a0 zs.length cap0, .int .u16 a1, .int .u64 a2, .bool a3, .int .u8 a4, .int .u8 a5, .bool a6] w fun e w' => e = .returned (.bool true) ∧ Below w.heap.size w w' := by
  have hmk := run_make_row' (P := Yba.prog) 22 5 (.int .u8 0) 1 Yba.underlying22 Yba.info5 rfl .i64 .i64 zs.length (by omega) (by omega)
  have hle : ¬ ((1024 : Int) < zs.length) := by omega
  obtain ⟨cs, hcs⟩ : ∃ cs, cs = zs.map (Value.int .u8) := ⟨_, rfl⟩
  have HC : Hid (cs = zs.map (Value.int .u8)) := hcs
  have hcl : cs.length = zs.length := by rw [hcs]; simp
  have hone : ∀ v ∈ cs, v.oneCell' = true := by
    intro v hv
    rw [hcs] at hv
    obtain ⟨a, _, rfl⟩ := List.mem_map.1 hv
    rfl
  have HCL : Hid (cs.length = zs.length) := hcl
  have HR : Hid (∀ j, j < zs.length → ∃ x, a0 = some x ∧ w.cell? (x.add j) = some (.int .u8 (zs.getD j 0))) := hrow
  have HB : Hid (∀ j, 0 ≤ zs.getD j 0 ∧ zs.getD j 0 < 256) := hby
  have HV : Hid (rV zs o 1 = 1) := hc
  have HNL : Hid (rV zs (rO zs o 1) 6 = nl) := hnl
  have HMV : Hid (rV zs (rO zs (rO zs o 1) 6) 6 = mv) := hmv
  clear hc hnl hmv
  clear hcs hcl hrow hby
  go_enter Yba.func3, Yba.ntmps3
  go_wp2_with (first | (refine wpList_copy_splice rfl (.tmp 41) (.tmp 42) 22 22 rfl 5 Yba.underlying22 Yba.size5 (some ⟨w.heap.size, 0, none⟩) a0 zs.length zs.length zs.length cap0 rfl rfl w.heap.size 0 (List.replicate zs.length (.int .u8 0)) 5 ?hg cs ?hn ?hpos ?hfit hone w.heap.size w ?hb (Nat.le_refl _) ?rest))
  case hg => exact make_row _ _
  case hn => exact HCL.out
  case hpos =>
    intro h
    exact copy_from zs cs HC.out HCL.out a0 w HR.out _ h
  case hfit => exact Nat.le_of_eq HCL.out
  case hb => exact (Below.refl _ _).alloc (Nat.le_refl _) _
  case rest =>
    intro w2 hg2 hb2
    have hr2 : ∀ j, j < zs.length → w2.cell? ⟨w.heap.size, j, none⟩ = some (.int .u8 (zs.getD j 0)) := buf_cell zs cs HC.out w2 _ hg2.out
    have hN : w.heap.size < w2.heap.size := by
      rcases Nat.lt_or_ge w.heap.size w2.heap.size with h | h
      · exact h
      · have := hg2.out; rw [Array.getElem?_eq_none h] at this; cases this
    clear hg2 hone HC HCL hmk
    go_wp2_with fail
    refine (raw_good w2.heap.size w.heap.size zs zs.length o a6 a2 a3 l t _ (by exact itr_new w2 _ zs o l t a6 a3 a2 hl HB.out hr2 hN hol) HV.out nl mv nm nt HNL.out HMV.out hl6 hm6 hz hm1 hfit _ _ rfl rfl).mono ?_
    rintro e w3 ⟨rfl, hK3, hI3⟩
    have hs3 : w2.heap.size + 1 ≤ w3.heap.size := by simpa using hK3.size
    have hr3 := hI3.rdr.row
    go_wp2_with fail
    refine (bread_u w3.heap.size (w3.heap.size + 1) w.heap.size zs zs.length o 1 a6 _ (by exact mdl_new w3 _ zs o a6 hl HB.out hr3 (by omega) hol) (by omega)).mono ?_
    rintro e w4 ⟨rfl, hK4, hM4⟩
    rw [HV.out]
    go_wp2_with fail
    refine (bread_u w3.heap.size (w3.heap.size + 1) w.heap.size zs zs.length (rO zs o 1) 6 (rF zs o 1 a6) w4 hM4 (by omega)).mono ?_
    rintro e w6 ⟨rfl, hK6, hM6⟩
    rw [HNL.out]
    go_wp2_with fail
    refine (bread_u w3.heap.size (w3.heap.size + 1) w.heap.size zs zs.length (rO zs (rO zs o 1) 6) 6 (rF zs (rO zs o 1) 6 (rF zs o 1 a6)) w6 hM6 (by omega)).mono ?_
    rintro e w7 ⟨rfl, hK7, hM7⟩
    rw [HMV.out]
    have hK47 := (hK4.trans hK6).trans hK7
    clear hK4 hK6 hK7 hM4 hM6
    rcases hz with ⟨hz0, hz1⟩ | ⟨hz0, hz1⟩
    · subst hz1
      have e1' : (64 : Int) - nl - 64 = nt := by omega
      have e3' : ¬ (64 < (nl : Int) + 64) := by omega
      clear e1 e3
      go_wp2_with fail
      refine (bread_u w3.heap.size (w3.heap.size + 1) w.heap.size zs zs.length (rO zs (rO zs (rO zs o 1) 6) 6) 64 (rF zs (rO zs (rO zs o 1) 6) 6 (rF zs (rO zs o 1) 6 (rF zs o 1 a6))) w7 hM7 (by omega)).mono ?_
      rintro e w5 ⟨rfl, hK8, hM8⟩
      have p5 := hM8.cP
      have f5 := hM8.cF
      have hK5 := hK47.trans hK8
      go_wp2_with fail
      have hbA : Below w3.heap.size w3 ((w3.alloc (.cells #[.int .i64 o] 3)).alloc (.cells #[.bool a6] 4)) := ((Below.refl _ _).alloc (Nat.le_refl _) _).alloc (by simp) _
      have hb5 : Below w3.heap.size w3 w5 := hbA.trans (hK5.below (by simp; omega) (Nat.le_refl _) (by omega))
      obtain ⟨⟨t0, t1, t2, t24⟩, ⟨t31, t32, t33⟩, ⟨t25, t3, t4, t34⟩, trow⟩ := tail_facts hK3 hI3 (fun p hp => hb5.cell hp)
      have hbw : Below w.heap.size w w5 := (hb2.alloc (by omega) _).trans ((hK3.below (by simp)).mono (by omega) |>.trans (hb5.mono (by omega)))
      clear hK5 hbA hr3 hr2 hK3 hI3 hb5 hb2 hK47 hK8 hM7 hM8
      go_quiet (fail)
      go_wp2
      clear t0 t1 t2 t24 t31 t32 t33 t25 t3 t4 t34 p5 f5
      go_loopw [34] (fun i wr => ∃ k : Nat, k ≤ zs.length ∧ i = .int .i64 k ∧ ∃ n, wr = w5.drewN n) (fun i _ => zs.length - (intOf i).toNat)
      case atStart => exact ⟨0, Nat.zero_le _, rfl, _, rfl⟩
      case round =>
        obtain ⟨k, hk, rfl, n5, rfl⟩ := hrel
        by_cases hlt : k < zs.length
        · have g1 := trow k hlt
          obtain ⟨x, hx, hcx⟩ := HR.out k hlt
          have g2 : w5.cell? (x.add k) = some (.int .u8 (zs.getD k 0)) := (hbw.cell (World.block_lt_of_cell? _ _ hcx)).trans hcx
          have hix : ∀ wx, Sem.run Yba.prog (Instr.indexAt 22 (.slice a0 zs.length cap0) (.int .i64 (k : Int))) wx = .ok (.pointer (some (x.add k))) wx := by
            intro wx
            rw [hx]
            have hk0 : (0 : Int) ≤ k := by omega
            have hk1 : (k : Int) < zs.length := by omega
            go_simp
          clear hx hcx
          go_wp2
          go_quiet (fail)
          go_wp2
          go_roundw
          case rel => exact ⟨k + 1, by omega, by go_num, _, rfl⟩
          case measure => simp [intOf]; omega
        · go_wp2
          go_ret
          exact ⟨rfl, below_drewN hbw _⟩

    · obtain rfl : mv = nm := hz1.symm
      go_wp2_with fail
      refine (bread_u w3.heap.size (w3.heap.size + 1) w.heap.size zs zs.length (rO zs (rO zs (rO zs o 1) 6) 6) mv (rF zs (rO zs (rO zs o 1) 6) 6 (rF zs (rO zs o 1) 6 (rF zs o 1 a6))) w7 hM7 (by omega)).mono ?_
      rintro e w5 ⟨rfl, hK8, hM8⟩
      have p5 := hM8.cP
      have f5 := hM8.cF
      have hK5 := hK47.trans hK8
      go_wp2_with fail
      have hbA : Below w3.heap.size w3 ((w3.alloc (.cells #[.int .i64 o] 3)).alloc (.cells #[.bool a6] 4)) := ((Below.refl _ _).alloc (Nat.le_refl _) _).alloc (by simp) _
      have hb5 : Below w3.heap.size w3 w5 := hbA.trans (hK5.below (by simp; omega) (Nat.le_refl _) (by omega))
      obtain ⟨⟨t0, t1, t2, t24⟩, ⟨t31, t32, t33⟩, ⟨t25, t3, t4, t34⟩, trow⟩ := tail_facts hK3 hI3 (fun p hp => hb5.cell hp)
      have hbw : Below w.heap.size w w5 := (hb2.alloc (by omega) _).trans ((hK3.below (by simp)).mono (by omega) |>.trans (hb5.mono (by omega)))
      clear hK5 hbA hr3 hr2 hK3 hI3 hb5 hb2 hK47 hK8 hM7 hM8
      go_quiet (fail)
      go_wp2
      clear t0 t1 t2 t24 t31 t32 t33 t25 t3 t4 t34 p5 f5
      go_loopw [34] (fun i wr => ∃ k : Nat, k ≤ zs.length ∧ i = .int .i64 k ∧ ∃ n, wr = w5.drewN n) (fun i _ => zs.length - (intOf i).toNat)
      case atStart => exact ⟨0, Nat.zero_le _, rfl, _, rfl⟩
      case round =>
        obtain ⟨k, hk, rfl, n5, rfl⟩ := hrel
        by_cases hlt : k < zs.length
        · have g1 := trow k hlt
          obtain ⟨x, hx, hcx⟩ := HR.out k hlt
          have g2 : w5.cell? (x.add k) = some (.int .u8 (zs.getD k 0)) := (hbw.cell (World.block_lt_of_cell? _ _ hcx)).trans hcx
          have hix : ∀ wx, Sem.run Yba.prog (Instr.indexAt 22 (.slice a0 zs.length cap0) (.int .i64 (k : Int))) wx = .ok (.pointer (some (x.add k))) wx := by
            intro wx
            rw [hx]
            have hk0 : (0 : Int) ≤ k := by omega
            have hk1 : (k : Int) < zs.length := by omega
            go_simp
          clear hx hcx
          go_wp2
          go_quiet (fail)
          go_wp2
          go_roundw
          case rel => exact ⟨k + 1, by omega, by go_num, _, rfl⟩
          case measure => simp [intOf]; omega
        · go_wp2
          go_ret
          exact ⟨rfl, below_drewN hbw _⟩


end Go.Proofs.Ybulkcmcu
