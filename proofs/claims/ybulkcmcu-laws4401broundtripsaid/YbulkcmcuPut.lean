import Derived.Test.YbulkcmcuWalkC
import Derived.Test.YbulkcmcuPutMath
namespace Go.Proofs.Ybulkcmcu
open Go.RowKit
set_option linter.unusedVariables false
set_option linter.unusedSimpArgs false

structure Buf (G : Nat) (zs : List Int) (w : World) : Prop where
  hlen : zs.length ≤ 1024
  byte : ∀ j, 0 ≤ zs.getD j 0 ∧ zs.getD j 0 < 256
  row : ∀ j, j < zs.length → w.cell? ⟨G, j, none⟩ = some (.int .u8 (zs.getD j 0))
  froz : ∀ j, j < zs.length → w.frozen? ⟨G, j, none⟩ = false

theorem Buf.gain {G : Nat} {zs : List Int} {w : World} (h : Buf G zs w) (q : Nat) (hq : q / 8 < zs.length) (hb : bitAt zs q = 0) :
    Buf G (gain zs q) (w.setCell ⟨G, q / 8, none⟩ (.int .u8 (zs.getD (q / 8) 0 + 2 ^ (7 - q % 8)))) := by
  refine ⟨by rw [gain_len]; exact h.hlen, gain_byte zs q hq h.byte hb, fun j hj => ?_, fun j hj => ?_⟩
  · rw [gain_len] at hj
    rw [gain_getD zs q hq]
    by_cases e : j = q / 8
    · subst e; rw [if_pos rfl]; exact World.cell?_setCell_same _ _ _ (h.row _ hj)
    · rw [if_neg e, World.cell?_setCell_other _ _ _ _ (by simp <;> omega)]; exact h.row j hj
  · rw [gain_len] at hj
    rw [World.frozen?_setCell]; exact h.froz j hj

theorem pow7_mod (k : Nat) (hk : k ≤ 7) : (2 : Int) ^ k % 256 = 2 ^ k := by
  rcases (by omega : k = 0 ∨ k = 1 ∨ k = 2 ∨ k = 3 ∨ k = 4 ∨ k = 5 ∨ k = 6 ∨ k = 7) with rfl | rfl | rfl | rfl | rfl | rfl | rfl | rfl <;> rfl
theorem u64_and1 (x : Int) (h₀ : 0 ≤ x) (h₁ : x < 18446744073709551616) : bits .and .u64 x 1 = x % 2 := bits_mask .u64 64 (by decide) wraps_u64 1 (by decide) x h₀ h₁
theorem ediv_pow_bd (v : Int) (k : Nat) (h0 : 0 ≤ v) (h1 : v < 18446744073709551616) : 0 ≤ v / 2 ^ k ∧ v / 2 ^ k < 18446744073709551616 :=
  ⟨Int.ediv_nonneg h0 (Int.le_of_lt (pow_two_pos k)), Int.lt_of_le_of_lt (Int.ediv_le_self _ h0) h1⟩

set_option maxHeartbeats 800000 in
theorem put_u (G B : Nat) (cap : Nat) (zs : List Int) (p n : Nat) (v : Int) (w : World) (h : Buf G zs w) (hn : n ≤ 64) (hpn : p + n ≤ zs.length * 8) (h0 : 0 ≤ v) (hv : v < 2 ^ n) (hv64 : v < 18446744073709551616) (hzero : ∀ q, p ≤ q → bitAt zs q = 0) (hB : B ≤ G) :
    Calls Yba.prog 7 #[.slice (some ⟨G, 0, none⟩) zs.length cap, .int .i64 p, .int .u64 v, .int .i64 n] w fun e w' => e = .returned (.int .i64 (p + n)) ∧ Below B w w' ∧
      ∃ zs', Buf G zs' w' ∧ zs'.length = zs.length ∧ rd zs' p n = v ∧ (∀ q, q < p → bitAt zs' q = bitAt zs q) ∧ (∀ q, p + n ≤ q → bitAt zs' q = 0) := by
  have hl := h.hlen
  have HV : Hid (v < 2 ^ n) := hv
  clear hv
  go_enter Yba.func7, Yba.ntmps7
  go_wp2
  go_loopw [1, 9] (fun po i wr => ∃ k : Nat, k ≤ n ∧ i = .int .i64 ((n : Int) - 1 - k) ∧ po = .int .i64 (p + k) ∧ Below B w wr ∧
      ∃ zs', Buf G zs' wr ∧ zs'.length = zs.length ∧ rd zs' p k = v / 2 ^ (n - k) ∧ (∀ q, q < p → bitAt zs' q = bitAt zs q) ∧ (∀ q, p + k ≤ q → bitAt zs' q = 0)) (fun _ i _ => ((intOf i) + 1).toNat)
  case atStart => exact ⟨0, Nat.zero_le _, by simp, by simp, Below.refl _ _, zs, h, rfl, by rw [Nat.sub_zero, Int.ediv_eq_zero_of_lt h0 HV.out]; rfl, fun _ _ => rfl, fun q hq => hzero q hq⟩
  case round =>
    obtain ⟨k, hk, rfl, rfl, hb, zs', hz, hlz, hrd, hlow, hup⟩ := hrel
    by_cases hlt : k < n
    · obtain ⟨m, hm⟩ : ∃ m : Nat, (n : Int) - 1 - k = m := ⟨n - 1 - k, by omega⟩
      have hmk : n - k = m + 1 := by omega
      have hm64 : m < 64 := by omega
      rw [hm]
      obtain ⟨x, hx⟩ : ∃ x : Int, x = v / 2 ^ m := ⟨_, rfl⟩
      have hxb := ediv_pow_bd v m h0 hv64
      rw [← hx] at hxb
      have HZ : Hid (Buf G zs' wr) := hz
      have hrow := hz.row ((p + k) / 8) (by omega)
      have hfro := hz.froz ((p + k) / 8) (by omega)
      have hidx : ((p : Int) + k) / 8 < (zs.length : Int) := by omega
      have hbit0 := hup (p + k) (Nat.le_refl _)
      have HR : Hid (rd zs' p k = v / 2 ^ (n - k)) := hrd
      have HU : Hid (∀ q, p + k ≤ q → bitAt zs' q = 0) := hup
      have HLo : Hid (∀ q, q < p → bitAt zs' q = bitAt zs q) := hlow
      have HX : Hid (x = v / 2 ^ m) := hx
      clear hrd hup hlow hz
      have hstep : 2 * (v / 2 ^ (n - k)) + x % 2 = x := by rw [hmk, HX.out]; exact top_step v m
      have HS : Hid (2 * (v / 2 ^ (n - k)) + x % 2 = x) := hstep
      clear hstep
      have hxx : v / 2 ^ m = x := hx.symm
      clear hx
      by_cases hbit : x % 2 = 1
      · have hand : bits .and .u64 x 1 = 1 := by rw [u64_and1 x hxb.1 hxb.2]; exact hbit
        have hor := or_gain (zs'.getD ((p + k) / 8) 0) (HZ.out.byte _).1 (HZ.out.byte _).2 (7 - (p + k) % 8) (by omega) hbit0
        have HOR : Hid (bits .or .u8 (zs'.getD ((p + k) / 8) 0) (2 ^ (7 - (p + k) % 8)) = zs'.getD ((p + k) / 8) 0 + 2 ^ (7 - (p + k) % 8)) := hor
        have HB0 : Hid (bitAt zs' (p + k) = 0) := hbit0
        clear hor hbit0
        go_wp2
        have e256 : (2 : Int) ^ (7 - (p + k) % 8) % 256 = 2 ^ (7 - (p + k) % 8) := pow7_mod _ (by omega)
        have hgo : zs'[(p + k) / 8]?.getD 0 = zs'.getD ((p + k) / 8) 0 := by simp
        rw [e256, hgo, HOR.out]
        have hq : (p + k) / 8 < zs'.length := by omega
        refine ⟨⟨k + 1, by omega, by congr 1; omega, by congr 1, hb.setCell hB _, gain zs' (p + k), HZ.out.gain _ hq HB0.out, by rw [gain_len]; exact hlz, ?_, ?_, ?_⟩, by simp only [intOf]; omega⟩
        · simp only [rd]
          rw [rd_congr zs' _ p k (fun q _ h2 => gain_other zs' _ hq HZ.out.byte HB0.out q (by omega)), gain_same zs' _ hq HZ.out.byte HB0.out, HR.out, show n - (k + 1) = m by omega]
          have := HS.out
          rw [hbit] at this
          rw [this]; exact HX.out
        · intro q hq'
          rw [gain_other zs' _ hq HZ.out.byte HB0.out q (by omega)]; exact HLo.out q hq'
        · intro q hq'
          rw [gain_other zs' _ hq HZ.out.byte HB0.out q (by omega)]; exact HU.out q (by omega)
      · have hand : bits .and .u64 x 1 = 0 := by rw [u64_and1 x hxb.1 hxb.2]; omega
        go_wp2
        refine ⟨⟨k + 1, by omega, by congr 1; omega, by congr 1, hb, zs', HZ.out, hlz, ?_, HLo.out, fun q hq => HU.out q (by omega)⟩, by simp only [intOf]; omega⟩
        simp only [rd]
        rw [hbit0, HR.out, show n - (k + 1) = m by omega, ← HX.out]
        have := HS.out
        omega
    · obtain rfl : k = n := by omega
      go_wp2
      go_ret
      refine ⟨rfl, hb, zs', hz, hlz, by simpa using hrd, hlow, hup⟩
end Go.Proofs.Ybulkcmcu
