import Derived.Test.YbulkcmdiDoorExact
import Derived.Deep.QuietTactic
import Derived.BigQuiet
namespace Go.Proofs.YbulkcmdiDoor
open Go.RowKit
set_option linter.unusedVariables false
set_option linter.unusedSimpArgs false

theorem xor_nat (a b : Nat) (ha : a < 65536) (hb : b < 65536) : bits .xor .u16 (a : Int) (b : Int) = ((a ^^^ b : Nat) : Int) := by
  have hx : a ^^^ b < 65536 := Nat.xor_lt_two_pow (n := 16) ha hb
  show IntKind.u16.wrap ((BitVec.ofInt 16 (a : Int) ^^^ BitVec.ofInt 16 (b : Int)).toNat : Int) = _
  have o1 : ∀ n : Nat, n < 65536 → (BitVec.ofInt 16 (n : Int)).toNat = n := fun n hn => by
    simp [BitVec.toNat_ofInt]; omega
  rw [BitVec.toNat_xor, o1 a ha, o1 b hb]
  exact wraps_u16 _ (by omega) (by omega)

/-- The answer's place and count, read back. -/
theorem back (P N : Int) (hP0 : 32 ≤ P) (hP1 : P ≤ 4064) (hN0 : 0 ≤ N) (hN1 : N < 16) (nx : Int) (h : bits .xor .u16 (bits .or .u16 (P * 16) N) 32768 = nx) :
    0 ≤ nx ∧ nx < 65536 ∧ bits .xor .u16 nx 32768 = P * 16 + N ∧ bits .and .u16 nx 15 = N := by
  have e1 : bits .or .u16 (P * 16) N = P * 16 + N := bits_join .u16 16 (by decide) wraps_u16 4 _ _ (by omega) (by omega) (by omega) hN0 hN1 (by omega)
  rw [e1] at h
  obtain ⟨y, hy⟩ : ∃ y : Nat, P * 16 + N = y := ⟨(P * 16 + N).toNat, by omega⟩
  rw [hy] at h
  have hy1 : y < 65536 := by omega
  have hz := xor_nat y 32768 hy1 (by decide)
  rw [show ((32768 : Nat) : Int) = 32768 from rfl] at hz
  rw [hz] at h
  have hx : y ^^^ 32768 < 65536 := Nat.xor_lt_two_pow (n := 16) hy1 (by decide)
  subst h
  refine ⟨by omega, by omega, ?_, ?_⟩
  · have hz2 := xor_nat (y ^^^ 32768) 32768 hx (by decide)
    rw [show ((32768 : Nat) : Int) = 32768 from rfl] at hz2
    rw [hz2, Nat.xor_assoc, Nat.xor_self, Nat.xor_zero, hy]
  · rw [and15 _ (by omega) (by omega)]
    have : (y ^^^ 32768) % 16 = y % 16 := by
      have := Nat.xor_mod_two_pow (a := y) (b := 32768) (n := 4)
      simpa using this
    omega

theorem grow1 (p r : Int) (hp : p ≤ 4096) (hr : 0 ≤ r) : 0 ≤ (4096 - p) * r := Int.mul_nonneg (by omega) hr
theorem grow0 (p r : Int) (hp : 0 ≤ p) (hr : 0 ≤ r) : (0 * 4096 - p) * r ≤ 0 := by
  have := Int.mul_nonneg hp hr
  have e : (0 * 4096 - p) * r = -(p * r) := by rw [Int.zero_mul, Int.zero_sub, Int.neg_mul]
  omega

set_option maxHeartbeats 800000 in
theorem walk_early (c : Int) (a0 : Option Addr) (len cap : Nat) (limit : Int) (w : World) (h : (1024 : Int) < len) :
    Calls Ybad.prog 4 #[.int .u16 c, .slice a0 len cap, .int .u8 limit] w fun e w' => e = .returned (.bool true) ∧ Below w.heap.size w w' := by
  go_enter Ybad.func4, Ybad.ntmps4
  go_wp2
  go_ret
  exact ⟨rfl, Below.refl _ _⟩

set_option maxHeartbeats 1600000 in
theorem walk_main (c : Int) (a0 : Option Addr) (len cap : Nat) (bs : Nat → Bool) (limit : Int) (w : World) (hlen : len ≤ 1024) (c0 : 0 ≤ c) (c1 : c < 65536) (l0 : 0 ≤ limit) (l1 : limit ≤ 255)
    (hrow : ∀ j, j < len → ∃ x, a0 = some x ∧ w.cell? (x.add j) = some (.bool (bs j))) (ht : TableAt w) (lim : Nat) (hlim : limit % 16 = lim) (hlim1 : lim < 16) :
    Calls Ybad.prog 4 #[.int .u16 c, .slice a0 len cap, .int .u8 limit] w fun e w' => e = .returned (.bool true) ∧ Below w.heap.size w w' := by
  have hle : ¬ ((1024 : Int) < len) := by omega
  have HR : Hid (∀ j, j < len → ∃ x, a0 = some x ∧ w.cell? (x.add j) = some (.bool (bs j))) := hrow
  have HT : Hid (TableAt w) := ht
  clear hrow ht
  go_enter Ybad.func4, Ybad.ntmps4
  go_wp2
  go_loopw [8, 9] (fun cu i wr => ∃ k : Nat, k ≤ len ∧ i = .int .i64 k ∧ ∃ c : Int, cu = .int .u16 c ∧ 0 ≤ c ∧ c < 65536 ∧ wr = w) (fun _ i _ => len - (intOf i).toNat)
  case atStart => exact ⟨0, Nat.zero_le _, rfl, c, rfl, c0, c1, rfl⟩
  case round =>
    obtain ⟨k, hk, rfl, d, rfl, d0, d1, rfl⟩ := hrel
    by_cases hlt : k < len
    · obtain ⟨a, ha, hca⟩ := HR.out k hlt
      have hix : ∀ wx, Sem.run Ybad.prog (Instr.indexAt 27 (.slice a0 len cap) (.int .i64 (k : Int))) wx = .ok (.pointer (some (a.add k))) wx := by
        intro wx
        rw [ha]
        have hk0 : (0 : Int) ≤ k := by omega
        have hk1 : (k : Int) < len := by omega
        go_simp
      clear ha
      have hxb := xor_bd d d0 d1
      obtain ⟨x, hx⟩ : ∃ x, bits .xor .u16 d 32768 = x := ⟨_, rfl⟩
      rw [hx] at hxb
      obtain ⟨n, hn, n1⟩ : ∃ n : Nat, bits .and .u16 d 15 = n ∧ n < 16 := ⟨(d % 16).toNat, by rw [and15 d d0 d1]; omega, by omega⟩
      have hr := HT.out n n1
      have rb := rate_bd n (by omega) (by omega)
      obtain ⟨b, hb⟩ : ∃ b : Int, b = if bs k then 1 else 0 := ⟨_, rfl⟩
      have hb' : b = 0 ∨ b = 1 := by rw [hb]; cases bs k <;> simp
      have qb := prod_bd (x / 16) (rate n) b (by omega) (by omega) rb.1 rb.2 hb'
      have q1 : bs k = true → 0 ≤ (b * 4096 - x / 16) * rate n := by intro h; rw [hb, h]; exact grow1 _ _ (by omega) rb.1
      have q0 : bs k = false → (b * 4096 - x / 16) * rate n ≤ 0 := by intro h; rw [hb, h]; exact grow0 _ _ (by omega) rb.1
      obtain ⟨q, hq⟩ : ∃ q, (b * 4096 - x / 16) * rate n = q := ⟨_, rfl⟩
      rw [hq] at qb q1 q0
      obtain ⟨P, N, hU⟩ := upd_ex x n q lim
      have key1 := updated_u d x (rate n) n q P N lim b wr d0 d1 hx hxb.1 hxb.2 hb' (by omega) (by omega) hn (by omega) (by omega) (by simpa using hr) hq qb.1 qb.2 hU
      obtain ⟨nx, hnx⟩ : ∃ nx, bits .xor .u16 (bits .or .u16 (P * 16) N) 32768 = nx := ⟨_, rfl⟩
      rw [hnx] at key1
      have hP0 : 32 ≤ P := by rcases hU.hP with ⟨h, e⟩ | ⟨h, e⟩ | ⟨h, e⟩ <;> omega
      have hP1 : P ≤ 4064 := by rcases hU.hP with ⟨h, e⟩ | ⟨h, e⟩ | ⟨h, e⟩ <;> omega
      have hN0 : 0 ≤ N := by rcases hU.hN with ⟨h, e⟩ | ⟨h, e⟩ <;> omega
      have hN1 : N < 16 := by rcases hU.hN with ⟨h, e⟩ | ⟨h, e⟩ <;> omega
      obtain ⟨x0, x1, bk1, bk2⟩ := back P N hP0 hP1 hN0 hN1 nx hnx
      have hpp : (P * 16 + N) / 16 = P := by omega
      have g1 : bs k = true → (x / 16 ≤ P ∨ 4064 ≤ P) := by intro h; have := q1 h; rcases hU.hP with ⟨h, e⟩ | ⟨h, e⟩ | ⟨h, e⟩ <;> omega
      have g0 : bs k = false → (P ≤ x / 16 ∨ P ≤ 32) := by intro h; have := q0 h; rcases hU.hP with ⟨h, e⟩ | ⟨h, e⟩ | ⟨h, e⟩ <;> omega
      have hN := hU.hN
      clear hU hnx hq qb q1 q0 hr rb
      cases hbk : bs k
      · rw [hbk] at hca
        simp [hbk] at hb
        subst hb
        have gg := g0 hbk
        clear g1 g0
        rcases hN with ⟨hN, rfl⟩ | ⟨hN, rfl⟩
        all_goals
          go_wp2_with fail
          refine key1.mono ?_
          rintro e w1 ⟨rfl, rfl⟩
          go_wp2_with fail
          exact ⟨⟨k + 1, by omega, by go_num, nx, rfl, x0, x1, trivial⟩, by simp only [intOf]; omega⟩
      · rw [hbk] at hca
        simp [hbk] at hb
        subst hb
        have gg := g1 hbk
        clear g1 g0
        rcases hN with ⟨hN, rfl⟩ | ⟨hN, rfl⟩
        all_goals
          go_wp2_with fail
          refine key1.mono ?_
          rintro e w1 ⟨rfl, rfl⟩
          go_wp2_with fail
          exact ⟨⟨k + 1, by omega, by go_num, nx, rfl, x0, x1, trivial⟩, by simp only [intOf]; omega⟩
    · go_wp2
      go_ret
      exact ⟨rfl, Below.refl _ _⟩
end Go.Proofs.YbulkcmdiDoor
