import Derived.Test.YbulkcmcuMath
import Derived.Laws.BitsLemmas
namespace Go.Proofs.Ybulkcmcu
set_option linter.unusedVariables false
set_option linter.unusedSimpArgs false

/-- A byte whose bit k is 0 gains that bit, and no other. -/
theorem byte_gain (x : Int) (h0 : 0 ≤ x) (h1 : x < 256) (k : Nat) (hk : k ≤ 7) (hb : x / 2 ^ k % 2 = 0) :
    (0 ≤ x + 2 ^ k ∧ x + 2 ^ k < 256) ∧ (x + 2 ^ k) / 2 ^ k % 2 = 1 ∧ ∀ j, j ≤ 7 → j ≠ k → (x + 2 ^ k) / 2 ^ j % 2 = x / 2 ^ j % 2 := by
  rcases (by omega : k = 0 ∨ k = 1 ∨ k = 2 ∨ k = 3 ∨ k = 4 ∨ k = 5 ∨ k = 6 ∨ k = 7) with rfl | rfl | rfl | rfl | rfl | rfl | rfl | rfl
  all_goals
    refine ⟨by omega, by omega, fun j hj hne => ?_⟩
    rcases (by omega : j = 0 ∨ j = 1 ∨ j = 2 ∨ j = 3 ∨ j = 4 ∨ j = 5 ∨ j = 6 ∨ j = 7) with rfl | rfl | rfl | rfl | rfl | rfl | rfl | rfl <;> omega

theorem or_gain_all : ∀ x : Fin 256, ∀ k : Fin 8, x.val / 2 ^ k.val % 2 = 0 → x.val ||| 2 ^ k.val = x.val + 2 ^ k.val := by decide +kernel

theorem or_gain (x : Int) (h0 : 0 ≤ x) (h1 : x < 256) (k : Nat) (hk : k ≤ 7) (hb : x / 2 ^ k % 2 = 0) : bits .or .u8 x (2 ^ k) = x + 2 ^ k := by
  obtain ⟨a, rfl⟩ := Int.eq_ofNat_of_zero_le h0
  have hb' : a / 2 ^ k % 2 = 0 := by
    have h : (((a / 2 ^ k % 2 : Nat)) : Int) = 0 := by simpa using hb
    exact_mod_cast h
  have ha : a < 256 := by omega
  have e := or_gain_all ⟨a, ha⟩ ⟨k, by omega⟩ hb'
  simp only at e
  have hp : 2 ^ k < 256 := Nat.pow_lt_pow_right (n := 8) (by decide) (by omega)
  have hx : a ||| 2 ^ k < 256 := Nat.or_lt_two_pow (n := 8) ha hp
  have hc : ((2 : Int) ^ k) = ((2 ^ k : Nat) : Int) := by simp
  rw [hc]
  show IntKind.u8.wrap ((BitVec.ofInt 8 (a : Int) ||| BitVec.ofInt 8 ((2 ^ k : Nat) : Int)).toNat : Int) = _
  have o1 : ∀ n : Nat, n < 256 → (BitVec.ofInt 8 (n : Int)).toNat = n := fun n hn => by
    simp [BitVec.toNat_ofInt]; omega
  rw [BitVec.toNat_or, o1 a ha, o1 _ hp, e]
  rw [wraps_u8 _ (by omega) (by omega)]
  simp

/-- The bytes zs with bit q (a 0) made 1. -/
def gain (zs : List Int) (q : Nat) : List Int := zs.set (q / 8) (zs.getD (q / 8) 0 + 2 ^ (7 - q % 8))

theorem gain_len (zs : List Int) (q : Nat) : (gain zs q).length = zs.length := by simp [gain]
theorem gain_getD (zs : List Int) (q : Nat) (hq : q / 8 < zs.length) (j : Nat) : (gain zs q).getD j 0 = if j = q / 8 then zs.getD (q / 8) 0 + 2 ^ (7 - q % 8) else zs.getD j 0 := by
  by_cases h : j = q / 8
  · subst h; simp [gain, hq]
  · rw [if_neg h]; simp [gain, List.getElem?_set, Ne.symm h]

theorem gain_byte (zs : List Int) (q : Nat) (hq : q / 8 < zs.length) (hz : ∀ j, 0 ≤ zs.getD j 0 ∧ zs.getD j 0 < 256) (hb : bitAt zs q = 0) (j : Nat) : 0 ≤ (gain zs q).getD j 0 ∧ (gain zs q).getD j 0 < 256 := by
  rw [gain_getD zs q hq]
  split
  · exact (byte_gain _ (hz _).1 (hz _).2 _ (by omega) hb).1
  · exact hz j
theorem gain_same (zs : List Int) (q : Nat) (hq : q / 8 < zs.length) (hz : ∀ j, 0 ≤ zs.getD j 0 ∧ zs.getD j 0 < 256) (hb : bitAt zs q = 0) : bitAt (gain zs q) q = 1 := by
  unfold bitAt
  rw [gain_getD zs q hq, if_pos rfl]
  exact (byte_gain _ (hz _).1 (hz _).2 _ (by omega) hb).2.1
theorem gain_other (zs : List Int) (q : Nat) (hq : q / 8 < zs.length) (hz : ∀ j, 0 ≤ zs.getD j 0 ∧ zs.getD j 0 < 256) (hb : bitAt zs q = 0) (r : Nat) (hr : r ≠ q) : bitAt (gain zs q) r = bitAt zs r := by
  unfold bitAt
  rw [gain_getD zs q hq]
  split
  · rename_i h
    rw [h]
    exact (byte_gain _ (hz _).1 (hz _).2 _ (by omega) hb).2.2 _ (by omega) (by omega)
  · rfl

theorem rd_congr (zs zs' : List Int) (p : Nat) : ∀ n, (∀ q, p ≤ q → q < p + n → bitAt zs' q = bitAt zs q) → rd zs' p n = rd zs p n
  | 0, _ => rfl
  | n + 1, h => by
    simp only [rd]
    rw [rd_congr zs zs' p n (fun q h1 h2 => h q h1 (by omega)), h (p + n) (by omega) (by omega)]

/-- A number's digit and what lies above it. -/
theorem top_step (v : Int) (k : Nat) : 2 * (v / 2 ^ (k + 1)) + v / 2 ^ k % 2 = v / 2 ^ k := by
  rw [Int.pow_succ, ← Int.ediv_ediv_of_nonneg (Int.le_of_lt (pow_two_pos k))]
  omega

end Go.Proofs.Ybulkcmcu
