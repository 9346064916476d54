import Derived.Test.YbulkcmcuWalkD
import Derived.Deep.RegionHeldLaw
import Derived.Deep.AppendLies
namespace Go.Proofs.Ybulkcmcu
open Go.RowKit
set_option linter.unusedVariables false
set_option linter.unusedSimpArgs false

set_option maxHeartbeats 400000 in
theorem readBits_end (B : Nat) (bp : Option Addr) (len cap : Nat) (off n : Nat) (f : Bool) (w : World) (hl : len ≤ 1024) (ho : off ≤ len * 8) (hn : n ≤ 64) (hpn : len * 8 < off + n)
    (h0 : w.cell? ⟨B, 0, none⟩ = some (.slice bp len cap)) (h1 : w.cell? ⟨B, 1, none⟩ = some (.int .i64 off)) (h2 : w.cell? ⟨B, 2, none⟩ = some (.bool f))
    (z1 : w.frozen? ⟨B, 1, none⟩ = false) (z2 : w.frozen? ⟨B, 2, none⟩ = false) :
    Calls Yba.prog 10 #[.pointer (some ⟨B, 0, none⟩), .int .i64 n] w fun e w' => e = .returned (.int .u64 0) ∧ Kept B [1, 2] w w' ∧ w'.cell? ⟨B, 1, none⟩ = some (.int .i64 (len * 8)) ∧ w'.cell? ⟨B, 2, none⟩ = some (.bool true) := by
  have hlt : (len : Int) * 8 - off < n := by omega
  go_enter Yba.func10, Yba.ntmps10
  go_wp2
  go_quiet (fail)
  go_wp2_with fail
  refine (fail_any B bp len cap _ f _ hl (by simpa using h0) (by simpa using h1) (by simpa using h2) (by simpa using z1) (by simpa using z2)).mono ?_
  rintro e w' ⟨rfl, rfl⟩
  go_wp2
  go_ret
  refine ⟨rfl, ((Kept.of_below (below_drewN (Below.refl _ _) _)).setCell (by simp) _).setCell (by simp) _, ?_, ?_⟩
  · exact World.cell?_setCell_same _ _ _ (by rw [World.cell?_setCell_other _ _ _ _ (by simp)]; simpa using h1)
  · rw [World.cell?_setCell_other _ _ _ _ (by simp)]
    exact World.cell?_setCell_same _ _ _ (by simpa using h2)

theorem addr_add (b o i : Nat) : (⟨b, o, none⟩ : Addr).add i = ⟨b, o + i, none⟩ := by
  unfold Addr.add
  split <;> simp_all

theorem copy_src (zs : List Int) (G q : Nat) (W : World) (hz : ∀ j, j < zs.length → W.cell? ⟨G, j, none⟩ = some (.int .u8 (zs.getD j 0))) (j : Nat) (v : Value) (hv : (((zs.drop q).take 8).map (Value.int .u8))[j]? = some v) : W.cell? ⟨G, q + j, none⟩ = some v := by
  rw [List.getElem?_map] at hv
  obtain ⟨x, hx, rfl⟩ := Option.map_eq_some_iff.1 hv
  have hj : j < 8 := by
    rcases Nat.lt_or_ge j 8 with h | h
    · exact h
    · rw [List.getElem?_eq_none (by simp; omega)] at hx; cases hx
  rw [List.getElem?_take_of_lt hj, List.getElem?_drop] at hx
  obtain ⟨hlt, he⟩ := List.getElem?_eq_some_iff.1 hx
  rw [hz (q + j) hlt, List.getD_eq_getElem?_getD, hx]; rfl

theorem word_cell (zs : List Int) (q : Nat) (W : World) (N : Nat) (hg : W.heap[N]? = some (.cells (splice ([.int .u8 0, .int .u8 0, .int .u8 0, .int .u8 0, .int .u8 0, .int .u8 0, .int .u8 0, .int .u8 0] : List Value) 0 (((zs.drop q).take 8).map (Value.int .u8))).toArray 52 (0, 0))) (j : Nat) (hj : j < 8) :
    W.cell? ⟨N, j, none⟩ = some (.int .u8 (zs.getD (q + j) 0)) := by
  have hc : (splice ([.int .u8 0, .int .u8 0, .int .u8 0, .int .u8 0, .int .u8 0, .int .u8 0, .int .u8 0, .int .u8 0] : List Value) 0 (((zs.drop q).take 8).map (Value.int .u8)))[j]? = some (.int .u8 (zs.getD (q + j) 0)) := by
    unfold splice
    simp only [List.take_zero, List.nil_append, Nat.zero_add]
    by_cases h : j < (((zs.drop q).take 8).map (Value.int .u8)).length
    · rw [List.getElem?_append_left h, List.getElem?_map, List.getElem?_take_of_lt hj, List.getElem?_drop]
      simp at h
      rw [List.getD_eq_getElem?_getD, List.getElem?_eq_getElem (by omega : q + j < zs.length)]
      rfl
    · rw [List.getElem?_append_right (by omega), List.getElem?_drop]
      simp only [List.length_map, List.length_take, List.length_drop] at h ⊢
      rw [List.getD_eq_getElem?_getD, List.getElem?_eq_none (by omega : zs.length ≤ q + j), show min 8 (zs.length - q) + (j - min 8 (zs.length - q)) = j by omega]
      rcases (by omega : j = 0 ∨ j = 1 ∨ j = 2 ∨ j = 3 ∨ j = 4 ∨ j = 5 ∨ j = 6 ∨ j = 7) with rfl | rfl | rfl | rfl | rfl | rfl | rfl | rfl <;> rfl
  have := World.news_of_block hg j _ hc
  rw [addr_add, Nat.zero_add] at this
  exact this

set_option maxHeartbeats 800000 in
theorem readBits_core (B G : Nat) (len cap : Nat) (zs : List Int) (off n : Nat) (f : Bool) (w : World) (hl : len ≤ 1024) (hcap : len ≤ cap) (hn1 : 1 ≤ n) (hn : n ≤ 56) (hpn : off + n ≤ len * 8) (hzl : zs.length = len) (hzb : ∀ j, 0 ≤ zs.getD j 0 ∧ zs.getD j 0 < 256)
    (hz : ∀ j, j < len → w.cell? ⟨G, j, none⟩ = some (.int .u8 (zs.getD j 0))) (hG : G < w.heap.size) (hB : B < w.heap.size)
    (h0 : w.cell? ⟨B, 0, none⟩ = some (.slice (some ⟨G, 0, none⟩) len cap)) (h1 : w.cell? ⟨B, 1, none⟩ = some (.int .i64 off)) (h2 : w.cell? ⟨B, 2, none⟩ = some (.bool f))
    (z1 : w.frozen? ⟨B, 1, none⟩ = false) :
    Calls Yba.prog 10 #[.pointer (some ⟨B, 0, none⟩), .int .i64 n] w fun e w' => e = .returned (.int .u64 (rd zs off n)) ∧ Kept B [1, 2] w w' ∧ w'.cell? ⟨B, 1, none⟩ = some (.int .i64 (off + n)) ∧ w'.cell? ⟨B, 2, none⟩ = some (.bool f) := by
  have hlt : ¬ ((len : Int) * 8 - off < n) := by omega
  have h56 : ¬ ((56 : Int) < n) := by omega
  have hcut : (off : Int) / 8 ≤ len := by omega
  have hnc : ¬ cap = off / 8 := by omega
  have hq0 : (0 : Int) ≤ (off : Int) / 8 := by omega
  have hqn : ((off : Int) / 8).toNat = off / 8 := by omega
  have hwr : IntKind.i64.wrap ((off : Int) / 8) = (off : Int) / 8 := by simp [IntKind.wrap, IntKind.bits, IntKind.signed]; omega
  go_enter Yba.func10, Yba.ntmps10
  go_wp2
  go_quiet (fail)
  go_wp2
  obtain ⟨W, hW⟩ : ∃ W, W = (w.drewN nq).alloc (.cells #[.int .u8 0, .int .u8 0, .int .u8 0, .int .u8 0, .int .u8 0, .int .u8 0, .int .u8 0, .int .u8 0] 52) := ⟨_, rfl⟩
  rw [← hW]
  have hb : Below w.heap.size w W := by rw [hW]; exact (below_drewN (Below.refl _ _) _).alloc (by simp) _
  have hsz : W.heap.size = w.heap.size + 1 := by rw [hW]; simp
  have hrow : W.heap[w.heap.size]? = some (.cells ([.int .u8 0, .int .u8 0, .int .u8 0, .int .u8 0, .int .u8 0, .int .u8 0, .int .u8 0, .int .u8 0] : List Value).toArray 52 (0, 0)) := by rw [hW]; simp [World.alloc]
  have c0 := (hb.cell (p := ⟨B, 0, none⟩) hB).trans h0
  have c1 := (hb.cell (p := ⟨B, 1, none⟩) hB).trans h1
  have hzW : ∀ j, j < len → W.cell? ⟨G, j, none⟩ = some (.int .u8 (zs.getD j 0)) := fun j hj => (hb.cell (p := ⟨G, j, none⟩) hG).trans (hz j hj)
  clear hW hz
  have hcl : (((zs.drop (off / 8)).take 8).map (Value.int .u8)).length = Nat.min (len - off / 8) 8 := by simp [hzl, Nat.min_comm]
  have hpos : 0 < (((zs.drop (off / 8)).take 8).map (Value.int .u8)).length → (some ⟨w.heap.size, 0, none⟩ : Option Addr) = some ⟨w.heap.size, 0, none⟩ ∧ ∃ ad, (some ⟨G, off / 8, none⟩ : Option Addr) = some ad ∧ ∀ j v, (((zs.drop (off / 8)).take 8).map (Value.int .u8))[j]? = some v → W.drew.cell? (ad.add j) = some v := by
    intro _
    refine ⟨rfl, _, rfl, fun j v hv => ?_⟩
    rw [addr_add]
    exact copy_src zs G (off / 8) W.drew (fun i hi => hzW i (by omega)) j v hv
  have hone : ∀ v ∈ ((zs.drop (off / 8)).take 8).map (Value.int .u8), v.oneCell' = true := by
    intro v hv
    obtain ⟨a, _, rfl⟩ := List.mem_map.1 hv
    rfl
  have hcl8 : 0 + (((zs.drop (off / 8)).take 8).map (Value.int .u8)).length ≤ 8 := by simp; omega
  go_region_held_law (fun w' => w'.cell? ⟨B, 0, none⟩ = some (.slice (some ⟨G, 0, none⟩) len cap) ∧ w'.cell? ⟨B, 1, none⟩ = some (.int .i64 off)) (simp [go_sem, *])
    ((refine step_copy_splice rfl (.tmp 32) (.tmp 42) 22 22 rfl 5 Yba.underlying22 (by kernel_rfl) (some ⟨w.heap.size, 0, none⟩) (some ⟨G, off / 8, none⟩) 8 8 (len - off / 8) (cap - off / 8) rfl rfl w.heap.size 0 _ 52 hrow (((zs.drop (off / 8)).take 8).map (Value.int .u8)) hcl hpos hcl8 hone w.heap.size w hb.drew (Nat.le_refl _) ?_; intro w4 hg4 hb4; have k0 := (hb4.cell (p := ⟨B, 0, none⟩) hB).trans h0; have k1 := (hb4.cell (p := ⟨B, 1, none⟩) hB).trans h1))
  go_wp2
  have hw4 : ∀ j, j < 8 → w4.cell? ⟨w.heap.size, j, none⟩ = some (.int .u8 (zs.getD (off / 8 + j) 0)) := fun j hj => word_cell zs (off / 8) w4 _ hg4.out j hj
  have hlt4 : w.heap.size < w4.heap.size := World.block_lt_of_cell? _ _ (hw4 0 (by decide))
  have hB4 : B < w4.heap.size := by omega
  have HZ : Hid (∀ j, 0 ≤ zs.getD j 0 ∧ zs.getD j 0 < 256) := hzb
  clear hzb hg4 hpos hone hcl hcl8 hzW c0 c1 hrow
  have htm : (off : Int).tmod 8 = (off : Int) % 8 := by rw [Int.tmod_eq_emod_of_nonneg (by omega)]
  have hs0 : (0 : Int) ≤ (off : Int) % 8 := by omega
  have hs1 : (off : Int) % 8 ≤ 64 := by omega
  have hs2 : ((off : Int) % 8).toNat = off % 8 := by omega
  have hr0 : IntKind.i64.wrap (64 - (n : Int)) = 64 - n := by simp [IntKind.wrap, IntKind.bits, IntKind.signed]; omega
  have hr1 : (0 : Int) ≤ 64 - n := by omega
  have hr2 : (64 : Int) - n ≤ 64 := by omega
  have hr3 : ((64 : Int) - n).toNat = 64 - n := by omega
  go_region_held3 (fun w' => w'.cell? ⟨B, 1, none⟩ = some (.int .i64 off)) (assumption)
    ((go_at_call 11; refine (uint64_any w.heap.size (fun j => zs.getD (off / 8 + j) 0) (fun j => HZ.out _) _ (by exact hw4)).mono ?_; rintro e w5 ⟨rfl, hb5⟩; have k5 := (hb5.cell (p := ⟨B, 1, none⟩) hB4).trans k1))
  have z5 : w5.frozen? ⟨B, 1, none⟩ = false := (hb5.frozen (p := ⟨B, 1, none⟩) hB4).trans ((hb4.frozen (p := ⟨B, 1, none⟩) hB).trans z1)
  have k25 : w5.cell? ⟨B, 2, none⟩ = some (.bool f) := (hb5.cell (p := ⟨B, 2, none⟩) hB4).trans ((hb4.cell (p := ⟨B, 2, none⟩) hB).trans h2)
  go_wp2
  go_ret
  have hb45 : Below w.heap.size w w5 := hb4.trans ((Below.refl _ w4).drew.trans (hb5.mono (Nat.le_of_lt hlt4)))
  refine ⟨ret_int ?_, (Kept.of_below hb45).setCell (by simp) _, World.cell?_setCell_same _ _ _ k5, ?_⟩
  · rw [IntKind.wrap_u64]
    simpa using rd_shift zs off n HZ.out hn
  · rw [World.cell?_setCell_other _ _ _ _ (by simp)]
    exact k25
end Go.Proofs.Ybulkcmcu
