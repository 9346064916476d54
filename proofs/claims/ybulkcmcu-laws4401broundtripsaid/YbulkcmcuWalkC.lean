import Derived.Test.YbulkcmcuWalkB
import Derived.LoopTactic
import Derived.Deep.Light
import Derived.Lib.EndianBits
namespace Go.Proofs.Ybulkcmcu
open Go.RowKit
set_option linter.unusedVariables false
set_option linter.unusedSimpArgs false

theorem or_step (v b : Int) (h0 : 0 ≤ v) (h1 : v < 9223372036854775808) (b0 : 0 ≤ b) (b1 : b ≤ 1) : bits .or .u64 (IntKind.u64.wrap (v * 2)) (IntKind.u64.wrap b) = 2 * v + b := by
  rw [u64_wrap_id _ (by omega) (by omega), u64_wrap_id _ (by omega) (by omega), bits_join .u64 64 (by decide) wraps_u64 1 _ _ (by omega) (by omega) (by omega) (by omega) (by omega) (by omega)]
  omega
theorem pow_le63 (k : Nat) (hk : k ≤ 63) : (2 : Int) ^ k ≤ 9223372036854775808 := by
  have : (2 : Nat) ^ k ≤ 2 ^ 63 := Nat.pow_le_pow_right (by decide) hk
  have h : ((2 ^ k : Nat) : Int) ≤ ((2 ^ 63 : Nat) : Int) := Int.ofNat_le.2 this
  simpa using h
theorem rd_lt63 (zs : List Int) (p k : Nat) (hk : k ≤ 63) : rd zs p k < 9223372036854775808 := by
  have := rd_bd zs p k; have := pow_le63 k hk; omega

theorem bread_end (P F : Nat) (bp : Option Addr) (len cap : Nat) (p : Nat) (n : Nat) (f : Bool) (w : World) (hl : len ≤ 1024) (hp : p ≤ len * 8) (hn : n ≤ 64) (hpn : len * 8 < p + n)
    (h1 : w.cell? ⟨P, 0, none⟩ = some (.int .i64 p)) (h2 : w.cell? ⟨F, 0, none⟩ = some (.bool f))
    (z1 : w.frozen? ⟨P, 0, none⟩ = false) (z2 : w.frozen? ⟨F, 0, none⟩ = false) (hPF : P ≠ F) :
    Calls Yba.prog 6 #[.slice bp len cap, .pointer (some ⟨P, 0, none⟩), .pointer (some ⟨F, 0, none⟩), .int .i64 n] w fun e w' => e = .returned (.int .u64 0) ∧ w' = (w.setCell ⟨F, 0, none⟩ (.bool true)).setCell ⟨P, 0, none⟩ (.int .i64 (len * 8)) := by
  have hlt : (len : Int) * 8 - p < n := by omega
  go_enter Yba.func6, Yba.ntmps6
  go_wp2
  go_ret
  exact ⟨rfl, rfl⟩

set_option maxHeartbeats 800000 in
theorem bread_in (G P F : Nat) (len cap : Nat) (zs : List Int) (p : Nat) (n : Nat) (w : World) (hl : len ≤ 1024) (hn : n ≤ 64) (hpn : p + n ≤ len * 8) (hzb : ∀ j, 0 ≤ zs.getD j 0 ∧ zs.getD j 0 < 256)
    (hz : ∀ j, j < len → w.cell? ⟨G, j, none⟩ = some (.int .u8 (zs.getD j 0))) (hG : G < w.heap.size) (hGP : G ≠ P)
    (h1 : w.cell? ⟨P, 0, none⟩ = some (.int .i64 p)) (z1 : w.frozen? ⟨P, 0, none⟩ = false) (hP : P < w.heap.size) :
    Calls Yba.prog 6 #[.slice (some ⟨G, 0, none⟩) len cap, .pointer (some ⟨P, 0, none⟩), .pointer (some ⟨F, 0, none⟩), .int .i64 n] w fun e w' => e = .returned (.int .u64 (rd zs p n)) ∧ Kept P [0] w w' ∧ w'.cell? ⟨P, 0, none⟩ = some (.int .i64 (p + n)) := by
  have hlt : ¬ ((len : Int) * 8 - p < n) := by omega
  go_enter Yba.func6, Yba.ntmps6
  go_wp2
  go_loopw [10, 11] (fun v i wr => ∃ k : Nat, k ≤ n ∧ i = .int .i64 k ∧ v = .int .u64 (rd zs p k) ∧ Kept P [0] w wr ∧ wr.cell? ⟨P, 0, none⟩ = some (.int .i64 (p + k))) (fun _ i _ => n - (intOf i).toNat)
  case atStart => exact ⟨0, Nat.zero_le _, rfl, rfl, Kept.refl _ _ _, by simpa using h1⟩
  case round =>
    obtain ⟨k, hk, rfl, rfl, hK, hc⟩ := hrel
    have hbd := rd_bd zs p k
    by_cases hlt2 : k < n
    · have g := hz ((p + k) / 8) (by omega)
      rw [← hK.far (p := ⟨G, (p + k) / 8, none⟩) hG hGP] at g
      have z := (hK.frozen ⟨P, 0, none⟩ hP).trans z1
      have hidx : ((p : Int) + k) / 8 < (len : Int) := by omega
      have HK : Hid (Kept P [0] w wr) := hK
      clear hK hz
      go_wp2
      go_light
      refine ⟨⟨k + 1, by omega, by go_num, ?_, HK.out.setCell (by simp) _, ?_⟩, by simp [intOf]; omega⟩
      · rw [and_bit zs (p + k) hzb, or_step _ _ hbd.1 (rd_lt63 zs p k (by omega)) (bitAt_bd _ _).1 (bitAt_bd _ _).2]; rfl
      · rw [World.cell?_setCell_same _ _ _ hc]; go_num
    · obtain rfl : k = n := by omega
      go_wp2
      go_ret
      exact ⟨rfl, hK, hc⟩
end Go.Proofs.Ybulkcmcu
