/-
  THE PLAIN MATHEMATICS of the bit reader: no Go in sight. 'bitAt zs p': bit p of the bytes zs, each byte's highest bit first. 'rd zs p n': the number that the n bits from p on spell, the first bit highest.
-/
namespace Go.Proofs.Ybulkcmcu

def bitAt (zs : List Int) (p : Nat) : Int := zs.getD (p / 8) 0 / 2 ^ (7 - p % 8) % 2
def rd (zs : List Int) (p : Nat) : Nat → Int
  | 0 => 0
  | n + 1 => 2 * rd zs p n + bitAt zs (p + n)

theorem bitAt_bd (zs : List Int) (p : Nat) : 0 ≤ bitAt zs p ∧ bitAt zs p ≤ 1 := by
  unfold bitAt; omega

theorem rd_bd (zs : List Int) (p : Nat) : ∀ n, 0 ≤ rd zs p n ∧ rd zs p n < 2 ^ n
  | 0 => by simp [rd]
  | n + 1 => by
    have h := rd_bd zs p n
    have b := bitAt_bd zs (p + n)
    simp only [rd, Int.pow_succ]
    omega

theorem rd_add (zs : List Int) (p a : Nat) : ∀ b, rd zs p (a + b) = rd zs p a * 2 ^ b + rd zs (p + a) b
  | 0 => by simp [rd]
  | b + 1 => by
    have h := rd_add zs p a b
    show 2 * rd zs p (a + b) + bitAt zs (p + (a + b)) = _
    rw [h]
    simp only [rd, Int.pow_succ]
    rw [show p + (a + b) = p + a + b by omega, Int.mul_add, show (2 : Int) * (rd zs p a * 2 ^ b) = rd zs p a * (2 ^ b * 2) by rw [Int.mul_comm, Int.mul_assoc]]
    omega

theorem pow_two_pos (n : Nat) : (0 : Int) < 2 ^ n := Int.pow_pos (by decide)

/-- Eight bytes, the first highest. -/
def be8 (b : Nat → Int) : Int := b 0 * 72057594037927936 + b 1 * 281474976710656 + b 2 * 1099511627776 + b 3 * 4294967296 + b 4 * 16777216 + b 5 * 65536 + b 6 * 256 + b 7

theorem be8_byte (b : Nat → Int) (hb : ∀ j, 0 ≤ b j ∧ b j < 256) : ∀ j, j < 8 → be8 b / 2 ^ (8 * (7 - j)) % 256 = b j
  | 0, _ => by have := hb 0; have := hb 1; have := hb 2; have := hb 3; have := hb 4; have := hb 5; have := hb 6; have := hb 7; simp only [be8]; omega
  | 1, _ => by have := hb 0; have := hb 1; have := hb 2; have := hb 3; have := hb 4; have := hb 5; have := hb 6; have := hb 7; simp only [be8]; omega
  | 2, _ => by have := hb 0; have := hb 1; have := hb 2; have := hb 3; have := hb 4; have := hb 5; have := hb 6; have := hb 7; simp only [be8]; omega
  | 3, _ => by have := hb 0; have := hb 1; have := hb 2; have := hb 3; have := hb 4; have := hb 5; have := hb 6; have := hb 7; simp only [be8]; omega
  | 4, _ => by have := hb 0; have := hb 1; have := hb 2; have := hb 3; have := hb 4; have := hb 5; have := hb 6; have := hb 7; simp only [be8]; omega
  | 5, _ => by have := hb 0; have := hb 1; have := hb 2; have := hb 3; have := hb 4; have := hb 5; have := hb 6; have := hb 7; simp only [be8]; omega
  | 6, _ => by have := hb 0; have := hb 1; have := hb 2; have := hb 3; have := hb 4; have := hb 5; have := hb 6; have := hb 7; simp only [be8]; omega
  | 7, _ => by have := hb 0; have := hb 1; have := hb 2; have := hb 3; have := hb 4; have := hb 5; have := hb 6; have := hb 7; simp only [be8]; omega

theorem be8_bd (b : Nat → Int) (hb : ∀ j, 0 ≤ b j ∧ b j < 256) : 0 ≤ be8 b ∧ be8 b < 18446744073709551616 := by
  have := hb 0; have := hb 1; have := hb 2; have := hb 3; have := hb 4; have := hb 5; have := hb 6; have := hb 7; simp only [be8]; omega

/-- The bit that lies k below the top of a byte is the byte's own, whatever lies above. -/
theorem mod256_bit (x : Int) (k : Nat) (hk : k ≤ 7) : x % 256 / 2 ^ k % 2 = x / 2 ^ k % 2 := by
  rcases (by omega : k = 0 ∨ k = 1 ∨ k = 2 ∨ k = 3 ∨ k = 4 ∨ k = 5 ∨ k = 6 ∨ k = 7) with rfl | rfl | rfl | rfl | rfl | rfl | rfl | rfl <;> omega

theorem be8_bit (b : Nat → Int) (hb : ∀ j, 0 ≤ b j ∧ b j < 256) (q : Nat) (hq : q < 64) : be8 b / 2 ^ (63 - q) % 2 = b (q / 8) / 2 ^ (7 - q % 8) % 2 := by
  rw [← be8_byte b hb (q / 8) (by omega), mod256_bit _ _ (by omega), Int.ediv_ediv_of_nonneg (Int.le_of_lt (pow_two_pos _)), ← Int.pow_add, show 8 * (7 - q / 8) + (7 - q % 8) = 63 - q by omega]

theorem two_mod (x P : Int) (hp : 0 < P) : 2 * (x / 2 % P) + x % 2 = x % (2 * P) := by
  have e := Int.mul_ediv_add_emod (x / 2) P
  have l := Int.emod_nonneg (x / 2) (by omega : P ≠ 0)
  have u := Int.emod_lt_of_pos (x / 2) hp
  generalize x / 2 % P = r at e l u ⊢
  generalize x / 2 / P = q at e
  have ex : x = (2 * r + x % 2) + 2 * P * q := by
    have : x = 2 * (x / 2) + x % 2 := by omega
    rw [← e] at this
    rw [Int.mul_assoc]; omega
  have h2 : (2 * r + x % 2 + 2 * P * q) % (2 * P) = 2 * r + x % 2 := by
    rw [Int.add_mul_emod_self_left]; exact Int.emod_eq_of_lt (by omega) (by omega)
  rw [← ex] at h2
  exact h2.symm

/-- What the word's bits from s on spell. -/
theorem rd_word (zs : List Int) (off : Nat) (hz : ∀ j, 0 ≤ zs.getD j 0 ∧ zs.getD j 0 < 256) : ∀ n, n + off % 8 ≤ 64 → rd zs off n = be8 (fun j => zs.getD (off / 8 + j) 0) / 2 ^ (64 - off % 8 - n) % 2 ^ n
  | 0, _ => by simp only [rd, Int.pow_zero]; omega
  | n + 1, h => by
    have ih := rd_word zs off hz n (by omega)
    have hbit := be8_bit (fun j => zs.getD (off / 8 + j) 0) (fun j => hz _) (off % 8 + n) (by omega)
    have e1 : bitAt zs (off + n) = zs.getD (off / 8 + (off % 8 + n) / 8) 0 / 2 ^ (7 - (off % 8 + n) % 8) % 2 := by
      unfold bitAt
      rw [show (off + n) / 8 = off / 8 + (off % 8 + n) / 8 by omega, show (off + n) % 8 = (off % 8 + n) % 8 by omega]
    have e2 : (64 - off % 8 - n) = (64 - off % 8 - (n + 1)) + 1 := by omega
    have e3 : 63 - (off % 8 + n) = 64 - off % 8 - (n + 1) := by omega
    simp only [rd]
    rw [ih, e1, ← hbit, e2, e3, Int.pow_succ, ← Int.ediv_ediv_of_nonneg (Int.le_of_lt (pow_two_pos _)), Int.pow_succ]
    generalize be8 _ / 2 ^ (64 - off % 8 - (n + 1)) = x
    have hp := pow_two_pos n
    generalize (2 : Int) ^ n = P at hp ⊢
    rw [Int.mul_comm P 2]; exact two_mod x P hp

/-- The word shifted up by s and down by 64 - n. -/
theorem shl_shr (x : Nat) (s n : Nat) (h : s + n ≤ 64) : (x * 2 ^ s % 2 ^ 64) / 2 ^ (64 - n) = x / 2 ^ (64 - s - n) % 2 ^ n := by
  have e1 : 2 ^ 64 = 2 ^ (64 - n) * 2 ^ n := by rw [← Nat.pow_add]; congr 1; omega
  have e2 : 2 ^ (64 - n) = 2 ^ s * 2 ^ (64 - s - n) := by rw [← Nat.pow_add]; congr 1; omega
  rw [e1, Nat.mod_mul_right_div_self, e2, Nat.mul_comm x, Nat.mul_div_mul_left _ _ (Nat.two_pow_pos s)]

theorem shl_shr_int (x : Int) (hx : 0 ≤ x) (s n : Nat) (h : s + n ≤ 64) : (x * 2 ^ s % 18446744073709551616) / 2 ^ (64 - n) = x / 2 ^ (64 - s - n) % 2 ^ n := by
  obtain ⟨m, rfl⟩ := Int.eq_ofNat_of_zero_le hx
  have := shl_shr m s n h
  have c := congrArg (Nat.cast : Nat → Int) this
  simpa using c

theorem rd_shift (zs : List Int) (off n : Nat) (hz : ∀ j, 0 ≤ zs.getD j 0 ∧ zs.getD j 0 < 256) (hn : n ≤ 56) :
    (be8 (fun j => zs.getD (off / 8 + j) 0) * 2 ^ (off % 8) % 18446744073709551616) / 2 ^ (64 - n) = rd zs off n := by
  rw [shl_shr_int _ (be8_bd _ (fun j => hz _)).1 _ _ (by omega), rd_word zs off hz n (by omega)]

end Go.Proofs.Ybulkcmcu
