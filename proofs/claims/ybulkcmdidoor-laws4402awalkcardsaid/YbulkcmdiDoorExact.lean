import Derived.Test.YbulkcmdiDoorWalkA
namespace Go.Proofs.YbulkcmdiDoor
open Go.RowKit
set_option linter.unusedVariables false
set_option linter.unusedSimpArgs false

/-- The table's entry n. -/
def rate (n : Int) : Int := 131072 / (2 * n + 3)
theorem rate_bd (n : Int) (h0 : 0 ≤ n) (h1 : n < 16) : 0 ≤ rate n ∧ rate n ≤ 43690 := by
  rcases (by omega : n = 0 ∨ n = 1 ∨ n = 2 ∨ n = 3 ∨ n = 4 ∨ n = 5 ∨ n = 6 ∨ n = 7 ∨ n = 8 ∨ n = 9 ∨ n = 10 ∨ n = 11 ∨ n = 12 ∨ n = 13 ∨ n = 14 ∨ n = 15) with rfl | rfl | rfl | rfl | rfl | rfl | rfl | rfl | rfl | rfl | rfl | rfl | rfl | rfl | rfl | rfl <;> decide

theorem prod_bd (p r b : Int) (hp0 : 0 ≤ p) (hp1 : p < 4096) (hr0 : 0 ≤ r) (hr1 : r ≤ 43690) (hb : b = 0 ∨ b = 1) : -178956970 ≤ (b * 4096 - p) * r ∧ (b * 4096 - p) * r ≤ 178956970 := by
  obtain ⟨d, hd⟩ : ∃ d, d = b * 4096 - p := ⟨_, rfl⟩
  rw [← hd]
  have h1 : d ≤ 4096 := by rcases hb with rfl | rfl <;> omega
  have h2 : -4096 ≤ d := by rcases hb with rfl | rfl <;> omega
  have u : d * r ≤ 4096 * r := Int.mul_le_mul_of_nonneg_right h1 hr0
  have l : -4096 * r ≤ d * r := Int.mul_le_mul_of_nonneg_right h2 hr0
  omega

theorem upd_ex (x n q lim : Int) : ∃ P N, Upd x n q lim P N := by
  refine ⟨if x / 16 + q / 65536 < 32 then 32 else if 4064 < x / 16 + q / 65536 then 4064 else x / 16 + q / 65536, if n < lim then n + 1 else n, ?_, ?_⟩
  · split
    · exact .inl ⟨by assumption, rfl⟩
    · split
      · exact .inr (.inl ⟨by assumption, rfl⟩)
      · exact .inr (.inr ⟨by omega, rfl⟩)
  · split
    · exact .inl ⟨by assumption, rfl⟩
    · exact .inr ⟨by omega, rfl⟩

theorem xor_bd (c : Int) (h0 : 0 ≤ c) (h1 : c < 65536) : 0 ≤ bits .xor .u16 c 32768 ∧ bits .xor .u16 c 32768 < 65536 := by
  show 0 ≤ IntKind.u16.wrap _ ∧ IntKind.u16.wrap _ < 65536
  generalize ((BitVec.ofInt 16 c ^^^ BitVec.ofInt 16 32768).toNat : Int) = y
  simp [IntKind.wrap, IntKind.bits, IntKind.signed]
  omega
theorem wraps_u16 (n : Int) (h0 : 0 ≤ n) (h1 : n < 2 ^ 16) : IntKind.u16.wrap n = n := by
  simp [IntKind.wrap, IntKind.bits, IntKind.signed]
  omega
theorem and15 (c : Int) (h0 : 0 ≤ c) (h1 : c < 65536) : bits .and .u16 c 15 = c % 16 := bits_mask .u16 16 (by decide) wraps_u16 4 (by decide) c h0 h1

def TableAt (w : World) : Prop := ∀ n : Nat, n < 16 → w.cell? ⟨0, n, none⟩ = some (.int .i32 (rate n))

theorem exact_walk (c lim : Int) (one : Bool) (w : World) (c0 : 0 ≤ c) (c1 : c < 65536) (l0 : 0 ≤ lim) (l1 : lim < 65536) (ht : TableAt w) :
    Calls Ybad.prog 3 #[.int .u16 c, .bool one, .int .u16 lim] w fun e w' => e = .returned (.bool true) ∧ w' = w := by
  have hxb := xor_bd c c0 c1
  obtain ⟨x, hx⟩ : ∃ x, bits .xor .u16 c 32768 = x := ⟨_, rfl⟩
  rw [hx] at hxb
  obtain ⟨n, hn, n1⟩ : ∃ n : Nat, bits .and .u16 c 15 = n ∧ n < 16 := ⟨(c % 16).toNat, by rw [and15 c c0 c1]; omega, by omega⟩
  have hr := ht n n1
  have rb := rate_bd n (by omega) (by omega)
  obtain ⟨b, hb⟩ : ∃ b : Int, b = if one then 1 else 0 := ⟨_, rfl⟩
  have hb' : b = 0 ∨ b = 1 := by rw [hb]; cases one <;> simp
  have qb := prod_bd (x / 16) (rate n) b (by omega) (by omega) rb.1 rb.2 hb'
  obtain ⟨q, hq⟩ : ∃ q, (b * 4096 - x / 16) * rate n = q := ⟨_, rfl⟩
  rw [hq] at qb
  obtain ⟨P, N, hU⟩ := upd_ex x n q lim
  have key1 := updated_u c x (rate n) n q P N lim b w c0 c1 hx hxb.1 hxb.2 hb' l0 l1 hn (by omega) (by omega) (by simpa using hr) hq qb.1 qb.2 hU
  have key2 := model_u c x (rate n) n q P N lim one (b * 4096) (by rw [hb]; cases one <;> simp) w c0 c1 hx hxb.1 hxb.2 l0 l1 hn (by omega) (by omega) rfl rb.1 (by omega) hq qb.1 qb.2 hU
  clear hx hn hr hq hU ht
  cases one
  all_goals
    simp at hb
    subst hb
    go_enter Ybad.func3, Ybad.ntmps3
    go_wp2_with fail
    refine key1.mono ?_
    rintro e w1 ⟨rfl, rfl⟩
    go_wp2_with fail
    refine key2.mono ?_
    rintro e w1 ⟨rfl, rfl⟩
    go_wp2_with fail
    go_ret
    exact ⟨by first | rfl | simp, rfl⟩
end Go.Proofs.YbulkcmdiDoor
