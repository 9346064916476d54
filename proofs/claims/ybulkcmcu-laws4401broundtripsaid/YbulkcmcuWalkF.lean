import Derived.Test.YbulkcmcuWalkE
namespace Go.Proofs.Ybulkcmcu
open Go.RowKit
set_option linter.unusedVariables false
set_option linter.unusedSimpArgs false

theorem pow_le32 (k : Nat) (hk : k ≤ 32) : (2 : Int) ^ k ≤ 4294967296 := by
  have : (2 : Nat) ^ k ≤ 2 ^ 32 := Nat.pow_le_pow_right (by decide) hk
  have h : ((2 ^ k : Nat) : Int) ≤ ((2 ^ 32 : Nat) : Int) := Int.ofNat_le.2 this
  simpa using h

theorem or32 (v u : Int) (h0 : 0 ≤ v) (h1 : v < 4294967296) (b0 : 0 ≤ u) (b1 : u < 4294967296) : bits .or .u64 (IntKind.u64.wrap (v * 4294967296)) u = v * 4294967296 + u := by
  rw [u64_wrap_id _ (by omega) (by omega), bits_join .u64 64 (by decide) wraps_u64 32 _ _ (by omega) (by omega) (by omega) (by omega) (by omega) (by omega)]

theorem rd_lt32 (zs : List Int) (p k : Nat) (hk : k ≤ 32) : rd zs p k < 4294967296 := by
  have := rd_bd zs p k; have := pow_le32 k hk; omega

set_option maxHeartbeats 800000 in
theorem readBits_long (B G : Nat) (len cap : Nat) (zs : List Int) (off n : Nat) (f : Bool) (w : World) (hl : len ≤ 1024) (hcap : len ≤ cap) (hn1 : 56 < n) (hn : n ≤ 64) (hpn : off + n ≤ len * 8) (hzl : zs.length = len) (hzb : ∀ j, 0 ≤ zs.getD j 0 ∧ zs.getD j 0 < 256)
    (hz : ∀ j, j < len → w.cell? ⟨G, j, none⟩ = some (.int .u8 (zs.getD j 0))) (hG : G < w.heap.size) (hB : B < w.heap.size) (hGB : G ≠ B)
    (h0 : w.cell? ⟨B, 0, none⟩ = some (.slice (some ⟨G, 0, none⟩) len cap)) (h1 : w.cell? ⟨B, 1, none⟩ = some (.int .i64 off)) (h2 : w.cell? ⟨B, 2, none⟩ = some (.bool f))
    (z1 : w.frozen? ⟨B, 1, none⟩ = false) :
    Calls Yba.prog 10 #[.pointer (some ⟨B, 0, none⟩), .int .i64 n] w fun e w' => e = .returned (.int .u64 (rd zs off n)) ∧ Kept B [1, 2] w w' ∧ w'.cell? ⟨B, 1, none⟩ = some (.int .i64 (off + n)) ∧ w'.cell? ⟨B, 2, none⟩ = some (.bool f) := by
  obtain ⟨m, rfl⟩ : ∃ m, n = m + 32 := ⟨n - 32, by omega⟩
  have hlt : ¬ ((len : Int) * 8 - off < m + 32) := by omega
  have h56 : ((56 : Int) < m + 32) := by omega
  have hzH : Hid (∀ j, j < len → w.cell? ⟨G, j, none⟩ = some (.int .u8 (zs.getD j 0))) := hz
  have HZ : Hid (∀ j, 0 ≤ zs.getD j 0 ∧ zs.getD j 0 < 256) := hzb
  clear hz hzb
  go_enter Yba.func10, Yba.ntmps10
  go_wp2
  go_quiet (fail)
  go_wp2_with fail
  refine (readBits_core B G len cap zs off m f _ hl hcap (by omega) (by omega) (by omega) hzl HZ.out (by exact hzH.out) (by simpa using hG) (by simpa using hB) (by simpa using h0) (by simpa using h1) (by simpa using h2) (by simpa using z1)).mono ?_
  rintro e w1 ⟨rfl, hK1, c1, c2⟩
  have hK : Kept B [1, 2] w w1 := (Kept.of_below (below_drewN (Below.refl _ _) _)).trans hK1
  have hs1 : w.heap.size ≤ w1.heap.size := hK.size
  have c0 : w1.cell? ⟨B, 0, none⟩ = some (.slice (some ⟨G, 0, none⟩) len cap) := (hK.cell 0 (by simp) hB).trans h0
  have z1' := (hK.frozen ⟨B, 1, none⟩ hB).trans z1
  go_wp2_with fail
  refine (readBits_core B G len cap zs (off + m) 32 f w1 hl hcap (by omega) (by omega) (by omega) hzl HZ.out (fun j hj => (hK.far (p := ⟨G, j, none⟩) hG hGB).trans (hzH.out j hj)) (by omega) (by omega) c0 (by simpa using c1) c2 z1').mono ?_
  rintro e w2 ⟨rfl, hK2, d1, d2⟩
  go_wp2
  go_ret
  refine ⟨ret_int ?_, hK.trans hK2, by rw [d1]; simp; omega, d2⟩
  have b1 := rd_bd zs off m
  have b2 := rd_bd zs (off + m) 32
  rw [or32 _ _ b1.1 (rd_lt32 _ _ _ (by omega)) b2.1 (rd_lt32 _ _ _ (by omega)), rd_add zs off m 32]; rfl

theorem readBits_any (B G : Nat) (len cap : Nat) (zs : List Int) (off n : Nat) (f : Bool) (w : World) (hl : len ≤ 1024) (hcap : len ≤ cap) (hn1 : 1 ≤ n) (hn : n ≤ 64) (hpn : off + n ≤ len * 8) (hzl : zs.length = len) (hzb : ∀ j, 0 ≤ zs.getD j 0 ∧ zs.getD j 0 < 256)
    (hz : ∀ j, j < len → w.cell? ⟨G, j, none⟩ = some (.int .u8 (zs.getD j 0))) (hG : G < w.heap.size) (hB : B < w.heap.size) (hGB : G ≠ B)
    (h0 : w.cell? ⟨B, 0, none⟩ = some (.slice (some ⟨G, 0, none⟩) len cap)) (h1 : w.cell? ⟨B, 1, none⟩ = some (.int .i64 off)) (h2 : w.cell? ⟨B, 2, none⟩ = some (.bool f))
    (z1 : w.frozen? ⟨B, 1, none⟩ = false) :
    Calls Yba.prog 10 #[.pointer (some ⟨B, 0, none⟩), .int .i64 n] w fun e w' => e = .returned (.int .u64 (rd zs off n)) ∧ Kept B [1, 2] w w' ∧ w'.cell? ⟨B, 1, none⟩ = some (.int .i64 (off + n)) ∧ w'.cell? ⟨B, 2, none⟩ = some (.bool f) := by
  by_cases h : n ≤ 56
  · exact readBits_core B G len cap zs off n f w hl hcap hn1 h hpn hzl hzb hz hG hB h0 h1 h2 z1
  · exact readBits_long B G len cap zs off n f w hl hcap (by omega) hn hpn hzl hzb hz hG hB hGB h0 h1 h2 z1
end Go.Proofs.Ybulkcmcu
