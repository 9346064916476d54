import Derived.Test.YbulkcmcuLawBase
import Derived.Test.YbulkcmcuPut
namespace Go.Proofs.Ybulkcmcu
open Go.RowKit
set_option linter.unusedVariables false
set_option linter.unusedSimpArgs false

theorem itr_zero (w2 : World) (G : Nat) (zs : List Int) (b : Int) (hl : zs.length ≤ 1024) (hby : ∀ j, 0 ≤ zs.getD j 0 ∧ zs.getD j 0 < 256) (hr2 : ∀ j, j < zs.length → w2.cell? ⟨G, j, none⟩ = some (.int .u8 (zs.getD j 0))) (hG : G < w2.heap.size) :
    Itr w2.heap.size G zs zs.length 0 false b false 0 0 (w2.alloc (.cells #[.slice (some ⟨G, 0, none⟩) zs.length zs.length, .int .i64 0, .bool false, .int .u64 0, .int .i64 0, .int .i64 0, .int .i64 0, .int .i64 0, .int .i64 0, .int .i64 0, .int .i64 0, .int .i64 0, .int .i64 0, .int .i64 0, .int .i64 0, .int .i64 0,
      .int .i64 0, .int .i64 0, .int .i64 0, .int .i64 0, .int .i64 0, .int .u64 0, .int .u64 0, .int .i64 0, .int .u64 b, .int .i64 0, .int .i64 0, .int .i64 0, .int .u64 0, .int .u64 0, .int .i64 0, .bool false, .int .i64 0, .int .i64 0, .nilIface] 40)) := by
  have hK : Below w2.heap.size w2 (w2.alloc (.cells #[.slice (some ⟨G, 0, none⟩) zs.length zs.length, .int .i64 0, .bool false, .int .u64 0, .int .i64 0, .int .i64 0, .int .i64 0, .int .i64 0, .int .i64 0, .int .i64 0, .int .i64 0, .int .i64 0, .int .i64 0, .int .i64 0, .int .i64 0, .int .i64 0,
      .int .i64 0, .int .i64 0, .int .i64 0, .int .i64 0, .int .i64 0, .int .u64 0, .int .u64 0, .int .i64 0, .int .u64 b, .int .i64 0, .int .i64 0, .int .i64 0, .int .u64 0, .int .u64 0, .int .i64 0, .bool false, .int .i64 0, .int .i64 0, .nilIface] 40)) := (Below.refl _ _).alloc (Nat.le_refl _) _
  refine ⟨⟨hl, Nat.le_refl _, hby, fun j hj => (hK.cell (p := ⟨G, j, none⟩) hG).trans (hr2 j hj), by simp; omega, by simp, by omega, ?_, ?_, ?_, ?_, ?_, Nat.zero_le _⟩, ?_, ?_, ?_, ?_, ?_, ?_, ?_, ?_⟩
  all_goals first | exact World.cell?_alloc_new _ _ _ _ | exact World.frozen?_alloc_new _ _ _ _

theorem buf_new (w : World) (L : Nat) (hL : L ≤ 1024) : Buf w.heap.size (List.replicate L 0) (w.alloc (.cells (madeCells #[.int .u8 0] L) 5)) := by
  refine ⟨by simpa using hL, fun j => ?_, fun j hj => ?_, fun j hj => ?_⟩
  · by_cases h : j < L <;> simp [h, List.getElem?_replicate]
  · have hj' : j < L := by simpa using hj
    rw [madeCells_one]
    rw [World.cell?_alloc_new]
    simp [hj', List.getElem?_replicate]
  · exact World.frozen?_alloc_new _ _ _ _
theorem zero_bit (L q : Nat) : bitAt (List.replicate L 0) q = 0 := by
  unfold bitAt
  have : (List.replicate L (0 : Int)).getD (q / 8) 0 = 0 := by
    by_cases h : q / 8 < L <;> simp [h, List.getElem?_replicate]
  rw [this]; simp

theorem put_v (G B : Nat) (cap : Nat) (zs : List Int) (p n : Nat) (pI nI r : Int) (v : Int) (w : World) (hpI : pI = p) (hnI : nI = n) (hr : r = p + n) (h : Buf G zs w) (L : Nat) (hL : zs.length = L) (hn : n ≤ 64) (hpn : p + n ≤ L * 8) (h0 : 0 ≤ v) (hv : v < 2 ^ n) (hv64 : v < 18446744073709551616) (hzero : ∀ q, p ≤ q → bitAt zs q = 0) (hB : B ≤ G) :
    Calls Yba.prog 7 #[.slice (some ⟨G, 0, none⟩) L cap, .int .i64 pI, .int .u64 v, .int .i64 nI] w fun e w' => e = .returned (.int .i64 r) ∧ Below B w w' ∧
      ∃ zs', Buf G zs' w' ∧ zs'.length = L ∧ rd zs' p n = v ∧ (∀ q, q < p → bitAt zs' q = bitAt zs q) ∧ (∀ q, p + n ≤ q → bitAt zs' q = 0) := by
  subst hpI hnI hr hL
  exact put_u G B cap zs p n v w h hn hpn h0 hv hv64 hzero hB

set_option maxHeartbeats 1600000 in
set_option maxRecDepth 100000 in
theorem trip_a (a0 a1 a2 a3 a4 : Int) (w : World) (b10 : 0 ≤ a1) (b11 : a1 ≤ 255) (b20 : 0 ≤ a2) (b21 : a2 ≤ 255) (b30 : 0 ≤ a3) (b31 : a3 ≤ 18446744073709551615) (b40 : 0 ≤ a4) (b41 : a4 ≤ 255)
    (l m0 t L mv : Nat) (x : Int) (hll : a1 % 64 = l) (hmm : a2 % (64 - (l : Int)) = m0) (htt : 64 - (l : Int) - (1 + m0) = t) (hl64 : l < 64) (hm64 : 1 + (m0 : Int) < 64)
    (hL : (13 + (1 + (m0 : Int)) + 7) / 8 + a4 % 4 = L) (hm6 : (1 + (m0 : Int)) % 64 = mv)
    (hx : bits .and .u64 a3 (IntKind.u64.wrap (IntKind.u64.wrap (2 ^ (1 + m0)) - 1)) = x) (hx0 : 0 ≤ x) (hx1 : x < 2 ^ (1 + m0)) (hx2 : x < 18446744073709551616) :
    Calls Yba.prog 4 #[.int .u64 a0, .int .u8 a1, .int .u8 a2, .int .u64 a3, .int .u8 a4] w fun e w' => e = .returned (.bool true) ∧ Below w.heap.size w w' := by
  have hmk := run_make_row' (P := Yba.prog) 22 5 (.int .u8 0) 1 Yba.underlying22 Yba.info5 rfl .i64 .i64 L (by omega) (by omega)
  have HX1 : Hid (x < 2 ^ (1 + m0)) := hx1
  clear hx1
  go_enter Yba.func4, Yba.ntmps4
  go_wp2_with fail
  refine (put_v w.heap.size w.heap.size L (List.replicate L 0) 0 1 0 1 1 1 _ (by rfl) (by rfl) (by rfl) (by exact buf_new w L (by omega)) L (by simp) (by omega) (by omega) (by omega) (by omega) (by omega) (fun q _ => zero_bit L q) (Nat.le_refl _)).mono ?_
  rintro e w1 ⟨rfl, hb1, z1, hz1, hl1, hr1, _, hu1⟩
  go_wp2_with fail
  refine (put_v w.heap.size w.heap.size L z1 1 6 1 6 7 (l : Int) _ (by rfl) (by rfl) (by rfl) hz1 L hl1 (by omega) (by omega) (by omega) (by omega) (by omega) hu1 (Nat.le_refl _)).mono ?_
  rintro e w2 ⟨rfl, hb2, z2, hz2, hl2, hr2, ho2, hu2⟩
  go_wp2_with fail
  refine (put_v w.heap.size w.heap.size L z2 7 6 7 6 13 (mv : Int) _ (by rfl) (by rfl) (by rfl) hz2 L hl2 (by omega) (by omega) (by omega) (by omega) (by omega) hu2 (Nat.le_refl _)).mono ?_
  rintro e w3 ⟨rfl, hb3, z3, hz3, hl3, hr3, ho3, hu3⟩
  go_wp2_with fail
  refine (put_v w.heap.size w.heap.size L z3 13 (1 + m0) 13 (1 + m0) (13 + (1 + m0)) x _ (by rfl) (by omega) (by omega) hz3 L hl3 (by omega) (by omega) hx0 HX1.out hx2 hu3 (Nat.le_refl _)).mono ?_
  rintro e w4 ⟨rfl, hb4, z4, hz4, hl4, hr4, ho4, hu4⟩
  have hN : w.heap.size < w4.heap.size := by
    have h1 := hb1.size; have h2 := hb2.size; have h3 := hb3.size; have h4 := hb4.size; simp at h1; omega
  have r3 : rd z4 7 6 = mv := by rw [← hr3]; exact rd_congr _ _ _ _ (fun q _ h2 => ho4 q (by omega))
  have r2 : rd z4 1 6 = l := by rw [← hr2]; exact rd_congr _ _ _ _ (fun q _ h2 => (ho4 q (by omega)).trans (ho3 q (by omega)))
  have r1 : rd z4 0 1 = 1 := by rw [← hr1]; exact rd_congr _ _ _ _ (fun q _ h2 => ((ho4 q (by omega)).trans (ho3 q (by omega))).trans (ho2 q (by omega)))
  have hbw : Below w.heap.size w w4 := (((((Below.refl _ _).alloc (Nat.le_refl _) _).trans hb1).trans hb2).trans hb3).trans hb4
  have hlen : 13 + (1 + m0) ≤ z4.length * 8 := by omega
  have v1 : rV z4 0 1 = 1 := by unfold rV; rw [if_pos (by omega)]; exact r1
  have o1 : rO z4 0 1 = 1 := by unfold rO; rw [if_pos (by omega)]
  have f1 : rF z4 0 1 false = false := by unfold rF; rw [if_pos (by omega)]
  have v2 : rV z4 (rO z4 0 1) 6 = l := by rw [o1]; unfold rV; rw [if_pos (by omega)]; exact r2
  have o2 : rO z4 (rO z4 0 1) 6 = 7 := by rw [o1]; unfold rO; rw [if_pos (by omega)]
  have f2 : rF z4 (rO z4 0 1) 6 (rF z4 0 1 false) = false := by rw [o1, f1]; unfold rF; rw [if_pos (by omega)]
  have v3 : rV z4 (rO z4 (rO z4 0 1) 6) 6 = mv := by rw [o2]; unfold rV; rw [if_pos (by omega)]; exact r3
  have o3 : rO z4 (rO z4 (rO z4 0 1) 6) 6 = 13 := by rw [o2]; unfold rO; rw [if_pos (by omega)]
  have f3 : rF z4 (rO z4 (rO z4 0 1) 6) 6 (rF z4 (rO z4 0 1) 6 (rF z4 0 1 false)) = false := by rw [f2, o2]; unfold rF; rw [if_pos (by omega)]
  have v4 : rV z4 13 (1 + m0) = x := by unfold rV; rw [if_pos (by omega)]; exact hr4
  have o4 : rO z4 13 (1 + m0) = 13 + (1 + m0) := by unfold rO; rw [if_pos (by omega)]
  have f4 : rF z4 13 (1 + m0) false = false := by unfold rF; rw [if_pos (by omega)]
  obtain ⟨H, hH⟩ : ∃ H : Prop, H = (rV z4 0 1 = 1 ∧ rV z4 (rO z4 0 1) 6 = l ∧ rV z4 (rO z4 (rO z4 0 1) 6) 6 = mv ∧ rO z4 (rO z4 (rO z4 0 1) 6) 6 = 13 ∧ rF z4 (rO z4 (rO z4 0 1) 6) 6 (rF z4 (rO z4 0 1) 6 (rF z4 0 1 false)) = false ∧ rV z4 13 (1 + m0) = x ∧ rO z4 13 (1 + m0) = 13 + (1 + m0) ∧ rF z4 13 (1 + m0) false = false) := ⟨_, rfl⟩
  have HH : H := by rw [hH]; exact ⟨v1, v2, v3, o3, f3, v4, o4, f4⟩
  clear hb1 hb2 hb3 hb4 hz1 hz2 hz3 hl1 hl2 hl3 hr1 hr2 hr3 hr4 ho2 ho3 ho4 hu1 hu2 hu3 hu4 v1 o1 f1 v2 o2 f2 v3 o3 f3 v4 o4 f4 r1 r2 r3 hmk
  subst hl4
  go_wp2_with fail
  rw [hH] at HH
  obtain ⟨v1, v2, v3, o3, f3, v4, o4, f4⟩ := HH
  have key := raw_good w4.heap.size w.heap.size z4 z4.length 0 false a0 false 0 0 _ (itr_zero w4 w.heap.size z4 a0 hz4.hlen hz4.byte hz4.row hN) v1 l mv (1 + m0) t v2 v3 hl64 (by omega) (.inr ⟨by simp; omega, by omega⟩) (by omega) (by omega) 13 false o3 f3
  rw [o4, f4, v4] at key
  clear v1 v2 v3 o3 f3 v4 o4 f4 hH
  refine key.mono ?_
  clear key
  rintro e w5 ⟨rfl, hK5, hI5⟩
  have hbw5 : Below w.heap.size w w5 := (hbw.alloc (by omega) _).trans ((hK5.below (by simp)).mono (by omega))
  have g1 := hI5.rdr.c1
  have g2 := hI5.rdr.c2
  have g24 := hI5.c24
  have g31 := hI5.c31
  have g32 := hI5.c32
  have g33 := hI5.c33
  clear hI5 hK5 hbw hz4
  have g1' : w5.cell? ⟨w4.heap.size, 1, none⟩ = some (.int .i64 (13 + (1 + (m0 : Int)))) := by rw [g1]; simp
  clear g1
  go_wp2_with fail
  go_ret
  exact ⟨rfl, hbw5⟩

set_option maxHeartbeats 1600000 in
set_option maxRecDepth 100000 in
theorem trip_b (a0 a1 a2 a3 a4 : Int) (w : World) (b10 : 0 ≤ a1) (b11 : a1 ≤ 255) (b20 : 0 ≤ a2) (b21 : a2 ≤ 255) (b30 : 0 ≤ a3) (b31 : a3 ≤ 18446744073709551615) (b40 : 0 ≤ a4) (b41 : a4 ≤ 255)
    (l m0 t L mv : Nat) (x : Int) (hll : a1 % 64 = l) (hmm : a2 % (64 - (l : Int)) = m0) (htt : 64 - (l : Int) - (1 + m0) = t) (hl64 : l < 64) (hm64 : ¬ (1 + (m0 : Int) < 64)) (hm63 : m0 ≤ 63)
    (hL : (13 + (1 + (m0 : Int)) + 7) / 8 + a4 % 4 = L) (hm6 : (1 + (m0 : Int)) % 64 = mv)
    (hx : bits .and .u64 a3 18446744073709551615 = x) (hx0 : 0 ≤ x) (hx1 : x < 2 ^ (1 + m0)) (hx2 : x < 18446744073709551616) :
    Calls Yba.prog 4 #[.int .u64 a0, .int .u8 a1, .int .u8 a2, .int .u64 a3, .int .u8 a4] w fun e w' => e = .returned (.bool true) ∧ Below w.heap.size w w' := by
  have hmk := run_make_row' (P := Yba.prog) 22 5 (.int .u8 0) 1 Yba.underlying22 Yba.info5 rfl .i64 .i64 L (by omega) (by omega)
  have HX1 : Hid (x < 2 ^ (1 + m0)) := hx1
  clear hx1
  go_enter Yba.func4, Yba.ntmps4
  go_wp2_with fail
  refine (put_v w.heap.size w.heap.size L (List.replicate L 0) 0 1 0 1 1 1 _ (by rfl) (by rfl) (by rfl) (by exact buf_new w L (by omega)) L (by simp) (by omega) (by omega) (by omega) (by omega) (by omega) (fun q _ => zero_bit L q) (Nat.le_refl _)).mono ?_
  rintro e w1 ⟨rfl, hb1, z1, hz1, hl1, hr1, _, hu1⟩
  go_wp2_with fail
  refine (put_v w.heap.size w.heap.size L z1 1 6 1 6 7 (l : Int) _ (by rfl) (by rfl) (by rfl) hz1 L hl1 (by omega) (by omega) (by omega) (by omega) (by omega) hu1 (Nat.le_refl _)).mono ?_
  rintro e w2 ⟨rfl, hb2, z2, hz2, hl2, hr2, ho2, hu2⟩
  go_wp2_with fail
  refine (put_v w.heap.size w.heap.size L z2 7 6 7 6 13 (mv : Int) _ (by rfl) (by rfl) (by rfl) hz2 L hl2 (by omega) (by omega) (by omega) (by omega) (by omega) hu2 (Nat.le_refl _)).mono ?_
  rintro e w3 ⟨rfl, hb3, z3, hz3, hl3, hr3, ho3, hu3⟩
  go_wp2_with fail
  refine (put_v w.heap.size w.heap.size L z3 13 (1 + m0) 13 (1 + m0) (13 + (1 + m0)) x _ (by rfl) (by omega) (by omega) hz3 L hl3 (by omega) (by omega) hx0 HX1.out hx2 hu3 (Nat.le_refl _)).mono ?_
  rintro e w4 ⟨rfl, hb4, z4, hz4, hl4, hr4, ho4, hu4⟩
  have hN : w.heap.size < w4.heap.size := by
    have h1 := hb1.size; have h2 := hb2.size; have h3 := hb3.size; have h4 := hb4.size; simp at h1; omega
  have r3 : rd z4 7 6 = mv := by rw [← hr3]; exact rd_congr _ _ _ _ (fun q _ h2 => ho4 q (by omega))
  have r2 : rd z4 1 6 = l := by rw [← hr2]; exact rd_congr _ _ _ _ (fun q _ h2 => (ho4 q (by omega)).trans (ho3 q (by omega)))
  have r1 : rd z4 0 1 = 1 := by rw [← hr1]; exact rd_congr _ _ _ _ (fun q _ h2 => ((ho4 q (by omega)).trans (ho3 q (by omega))).trans (ho2 q (by omega)))
  have hbw : Below w.heap.size w w4 := (((((Below.refl _ _).alloc (Nat.le_refl _) _).trans hb1).trans hb2).trans hb3).trans hb4
  have hlen : 13 + (1 + m0) ≤ z4.length * 8 := by omega
  have v1 : rV z4 0 1 = 1 := by unfold rV; rw [if_pos (by omega)]; exact r1
  have o1 : rO z4 0 1 = 1 := by unfold rO; rw [if_pos (by omega)]
  have f1 : rF z4 0 1 false = false := by unfold rF; rw [if_pos (by omega)]
  have v2 : rV z4 (rO z4 0 1) 6 = l := by rw [o1]; unfold rV; rw [if_pos (by omega)]; exact r2
  have o2 : rO z4 (rO z4 0 1) 6 = 7 := by rw [o1]; unfold rO; rw [if_pos (by omega)]
  have f2 : rF z4 (rO z4 0 1) 6 (rF z4 0 1 false) = false := by rw [o1, f1]; unfold rF; rw [if_pos (by omega)]
  have v3 : rV z4 (rO z4 (rO z4 0 1) 6) 6 = mv := by rw [o2]; unfold rV; rw [if_pos (by omega)]; exact r3
  have o3 : rO z4 (rO z4 (rO z4 0 1) 6) 6 = 13 := by rw [o2]; unfold rO; rw [if_pos (by omega)]
  have f3 : rF z4 (rO z4 (rO z4 0 1) 6) 6 (rF z4 (rO z4 0 1) 6 (rF z4 0 1 false)) = false := by rw [f2, o2]; unfold rF; rw [if_pos (by omega)]
  have v4 : rV z4 13 (1 + m0) = x := by unfold rV; rw [if_pos (by omega)]; exact hr4
  have o4 : rO z4 13 (1 + m0) = 13 + (1 + m0) := by unfold rO; rw [if_pos (by omega)]
  have f4 : rF z4 13 (1 + m0) false = false := by unfold rF; rw [if_pos (by omega)]
  obtain ⟨H, hH⟩ : ∃ H : Prop, H = (rV z4 0 1 = 1 ∧ rV z4 (rO z4 0 1) 6 = l ∧ rV z4 (rO z4 (rO z4 0 1) 6) 6 = mv ∧ rO z4 (rO z4 (rO z4 0 1) 6) 6 = 13 ∧ rF z4 (rO z4 (rO z4 0 1) 6) 6 (rF z4 (rO z4 0 1) 6 (rF z4 0 1 false)) = false ∧ rV z4 13 (1 + m0) = x ∧ rO z4 13 (1 + m0) = 13 + (1 + m0) ∧ rF z4 13 (1 + m0) false = false) := ⟨_, rfl⟩
  have HH : H := by rw [hH]; exact ⟨v1, v2, v3, o3, f3, v4, o4, f4⟩
  clear hb1 hb2 hb3 hb4 hz1 hz2 hz3 hl1 hl2 hl3 hr1 hr2 hr3 hr4 ho2 ho3 ho4 hu1 hu2 hu3 hu4 v1 o1 f1 v2 o2 f2 v3 o3 f3 v4 o4 f4 r1 r2 r3 hmk
  subst hl4
  go_wp2_with fail
  rw [hH] at HH
  obtain ⟨v1, v2, v3, o3, f3, v4, o4, f4⟩ := HH
  have key := raw_good w4.heap.size w.heap.size z4 z4.length 0 false a0 false 0 0 _ (itr_zero w4 w.heap.size z4 a0 hz4.hlen hz4.byte hz4.row hN) v1 l mv (1 + m0) t v2 v3 hl64 (by omega) (.inl ⟨by simp; omega, by omega⟩) (by omega) (by omega) 13 false o3 f3
  rw [o4, f4, v4] at key
  clear v1 v2 v3 o3 f3 v4 o4 f4 hH
  refine key.mono ?_
  clear key
  rintro e w5 ⟨rfl, hK5, hI5⟩
  have hbw5 : Below w.heap.size w w5 := (hbw.alloc (by omega) _).trans ((hK5.below (by simp)).mono (by omega))
  have g1 := hI5.rdr.c1
  have g2 := hI5.rdr.c2
  have g24 := hI5.c24
  have g31 := hI5.c31
  have g32 := hI5.c32
  have g33 := hI5.c33
  clear hI5 hK5 hbw hz4
  have g1' : w5.cell? ⟨w4.heap.size, 1, none⟩ = some (.int .i64 (13 + (1 + (m0 : Int)))) := by rw [g1]; simp
  clear g1
  go_wp2_with fail
  go_ret
  exact ⟨rfl, hbw5⟩

end Go.Proofs.Ybulkcmcu
