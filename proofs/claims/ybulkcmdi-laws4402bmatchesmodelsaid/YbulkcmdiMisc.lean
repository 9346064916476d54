import Derived.Test.YbulkcmdiGroup
namespace Go.Proofs.Ybulkcmdi
open Go.RowKit
set_option linter.unusedVariables false
set_option linter.unusedSimpArgs false

set_option maxRecDepth 20000 in
set_option maxHeartbeats 800000 in
theorem appuv_u (base : Nat) (b : Value) (zs : List Int) (x : Nat) (w : World) (hown : Own w base b zs) (hx : x < 18446744073709551616) (hl : zs.length ≤ 100000) (hbase : base ≤ w.heap.size) :
    Calls Yba.prog 15 #[b, .int .u64 (x : Int)] w fun e w' => ∃ v, e = .returned v ∧ Own w' base v (zs ++ uv 9 x) ∧ Below base w w' := by
  have HX : Hid (x < 18446744073709551616) := hx
  clear hx
  go_enter Yba.func15, Yba.ntmps15
  go_wp2
  go_loopw [0, 1] (fun b v wr => ∃ (ys : List Int) (f y : Nat), v = .int .u64 (y : Int) ∧ y < 2 * 128 ^ f ∧ y < 18446744073709551616 ∧ ys ++ uv f y = uv 9 x ∧ ys.length + f = 9 ∧ Own wr base b (zs ++ ys) ∧ Below base w wr) (fun _ v _ => (intOf v).toNat)
  case atStart => exact ⟨[], 9, x, rfl, by have := HX.out; omega, HX.out, rfl, rfl, by simpa using hown, Below.refl _ _⟩
  case round =>
    obtain ⟨ys, f, y, rfl, hy, hy64, hys, hlen, hown', hbel⟩ := hrel
    have hsz := hbel.size
    have HY64 : Hid (y < 18446744073709551616) := hy64
    generalize hYy : (y : Int) = Y
    have HYy : Hid ((y : Int) = Y) := hYy
    have hY0 : 0 ≤ Y := by omega
    have hyI : Y < 18446744073709551616 := by omega
    clear hy64
    by_cases hlt : Y < 128
    · have hlt' : y < 128 := by omega
      have HL : Hid (y < 128) := hlt'
      have e8 : Y % 256 = Y := by omega
      clear hlt' hYy
      have HB : Hid (Below base w (wr.alloc (.cells #[.int .u8 Y] 5))) := hbel.alloc (by omega) _
      have HU : Hid (ys ++ uv f y = uv 9 x) := hys
      clear hown hbel hys hy
      go_wp2_with (first | (at_builtin; refine wpList_append_bytes rfl _ _ rfl base _ (zs ++ ys) rfl (hown'.alloc _) (some ⟨wr.heap.size, 0, none⟩) 1 1 [Y] rfl rfl ?c1 (fun h => by cases h) (by simp; omega) (by simp; omega) w HB.out ?_))
      case c1 =>
        intro j hj
        have : j = 0 := by simpa using hj
        subst this
        exact ⟨_, rfl, by simp [Addr.add]⟩
      · intro v' w1 hown1 hb1 _
        go_wp2
        go_ret
        refine ⟨_, rfl, ?_, hb1⟩
        rw [uv_small _ _ HL.out, HYy.out] at HU
        rw [← HU.out]; first | exact hown1 | (rw [← List.append_assoc]; exact hown1)
    · cases f with
      | zero => exfalso; simp at hy; omega
      | succ f =>
        have HL : Hid (128 ≤ y) := by show 128 ≤ y; omega
        have hor : bits .or .u8 (Y % 256) 128 = Y % 128 + 128 := by rw [or128 _ (by omega) (by omega)]; omega
        have HB : Hid (Below base w (wr.alloc (.cells #[.int .u8 (Y % 128 + 128)] 5))) := hbel.alloc (by omega) _
        have HU : Hid (ys ++ uv (f + 1) y = uv 9 x) := hys
        have HY : Hid (y < 2 * 128 ^ (f + 1)) := hy
        clear hown hbel hys hy hYy
        go_wp2_with (first | (at_builtin; refine wpList_append_bytes rfl _ _ rfl base _ (zs ++ ys) rfl (hown'.alloc _) (some ⟨wr.heap.size, 0, none⟩) 1 1 [Y % 128 + 128] rfl rfl ?c1 (fun h => by cases h) (by simp; omega) (by simp; omega) w HB.out ?_))
        case c1 =>
          intro j hj
          have : j = 0 := by simpa using hj
          subst this
          exact ⟨_, rfl, by simp [Addr.add]⟩
        · intro v' w1 hown1 hb1 _
          go_wp2
          go_roundw
          case rel =>
            have HYY := HYy.out
            have HLL := HL.out
            have H64 := HY64.out
            refine ⟨ys ++ [Y % 128 + 128], f, y / 128, by congr 1; omega, ?_, by omega, ?_, by simp; omega, ?_, hb1⟩
            · have := HY.out; rw [Nat.pow_succ] at this; omega
            · have := HU.out; rw [uv_step _ _ HLL, HYY] at this; rw [← this]; simp
            · first | exact hown1 | (rw [← List.append_assoc]; exact hown1)
          case measure => have := HL.out; have := HYy.out; simp [intOf]; omega


set_option maxRecDepth 100000 in
theorem grow_u (R cap n : Nat) (w : World) (hn : n ≤ cap) (hc : cap ≤ 9000) :
    Calls Yba.prog 29 #[.slice (some ⟨R, 0, none⟩) 0 cap, .int .i64 (n : Int)] w fun e w' => e = .returned (.slice (some ⟨R, 0, none⟩) 0 cap) ∧ w' = w := by
  have h1 : ¬ ((n : Int) < 0) := by omega
  have h2 : ¬ ((0 : Int) < (n : Int) - cap) := by omega
  go_enter Yba.func29, Yba.ntmps29
  go_wp2
  go_ret
  exact ⟨rfl, rfl⟩
set_option maxRecDepth 100000 in
theorem extend_u (R cap n : Nat) (w : World) (hn : n ≤ cap) (hc : cap ≤ 9000) (h0 : 0 < n) :
    Calls Yba.prog 23 #[.slice (some ⟨R, 0, none⟩) 0 cap, .int .i64 (n : Int)] w fun e w' => e = .returned (.tuple #[.slice (some ⟨R, 0, none⟩) n cap, .slice (some ⟨R, 0, none⟩) n cap]) ∧ ∃ q, w' = w.drewN q := by
  have h1 : (n : Int) ≤ cap := by omega
  have h2 : ¬ (cap = 0) := by omega
  go_enter Yba.func23, Yba.ntmps23
  go_wp2_with fail
  refine (grow_u R cap n w hn hc).mono ?_
  rintro e w1 ⟨rfl, rfl⟩
  have hz : (n : Int) - n = 0 := by omega
  go_wp2
  go_quiet (fail)
  go_wp2
  go_ret2
  exact ⟨rfl, _, rfl⟩
set_option maxHeartbeats 800000 in
theorem equal_u (ao bo : Option Addr) (n ca cb : Nat) (zs : List Int) (w : World) (hn : n = zs.length) (hl : n ≤ 100000) (ha : Rd w ao zs) (hb : Rd w bo zs) :
    Calls Yba.prog 8 #[.slice ao n ca, .slice bo n cb] w fun e w' => e = .returned (.bool true) ∧ ∃ m, w' = w.drewN m := by
  subst hn
  have HA : Hid (Rd w ao zs) := ha
  have HB : Hid (Rd w bo zs) := hb
  clear ha hb
  go_enter Yba.func8, Yba.ntmps8
  go_wp2
  go_loopw [13] (fun i wr => ∃ k : Nat, k ≤ zs.length ∧ i = .int .i64 k ∧ ∃ m, wr = w.drewN m) (fun i _ => zs.length - (intOf i).toNat)
  case atStart => exact ⟨0, Nat.zero_le _, rfl, 0, rfl⟩
  case round =>
    obtain ⟨k, hk, rfl, m, rfl⟩ := hrel
    by_cases hlt : k < zs.length
    · obtain ⟨x, hx, g1⟩ := HA.out k hlt
      obtain ⟨y, hy, g2⟩ := HB.out k hlt
      have hix : ∀ wx, Sem.run Yba.prog (Instr.indexAt 22 (.slice ao zs.length ca) (.int .i64 (k : Int))) wx = .ok (.pointer (some (x.add k))) wx := by
        intro wx
        rw [hx]
        have hk0 : (0 : Int) ≤ k := by omega
        have hk1 : (k : Int) < zs.length := by omega
        go_simp
      have hiy : ∀ wx, Sem.run Yba.prog (Instr.indexAt 22 (.slice bo zs.length cb) (.int .i64 (k : Int))) wx = .ok (.pointer (some (y.add k))) wx := by
        intro wx
        rw [hy]
        have hk0 : (0 : Int) ≤ k := by omega
        have hk1 : (k : Int) < zs.length := by omega
        go_simp
      clear hx hy
      go_wp2
      go_quiet (fail)
      go_wp2
      go_roundw
      case rel => exact ⟨k + 1, by omega, by go_num, _, rfl⟩
      case measure => simp [intOf]; omega
    · go_wp2
      go_ret
      exact ⟨rfl, m, rfl⟩


end Go.Proofs.Ybulkcmdi
