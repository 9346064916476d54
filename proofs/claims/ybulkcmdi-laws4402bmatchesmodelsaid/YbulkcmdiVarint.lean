import Derived.Test.YbulkcmdiBase
namespace Go.Proofs.Ybulkcmdi
open Go.RowKit
set_option linter.unusedVariables false
set_option linter.unusedSimpArgs false

/-- The unsigned varint of x; f: how many bytes may follow the first. -/
def uv : Nat → Nat → List Int
  | 0, x => [(x : Int)]
  | f + 1, x => if x < 128 then [(x : Int)] else ((x : Int) % 128 + 128) :: uv f (x / 128)

theorem uv_small (f x : Nat) (h : x < 128) : uv f x = [(x : Int)] := by
  cases f with
  | zero => rfl
  | succ f => simp [uv, h]
theorem uv_step (f x : Nat) (h : 128 ≤ x) : uv (f + 1) x = ((x : Int) % 128 + 128) :: uv f (x / 128) := by
  simp [uv]; omega
theorem uv_len (f : Nat) : ∀ x, 1 ≤ (uv f x).length ∧ (uv f x).length ≤ f + 1 := by
  induction f with
  | zero => intro x; simp [uv]
  | succ f ih =>
    intro x
    by_cases h : x < 128
    · rw [uv_small _ _ h]; simp
    · rw [uv_step _ _ (by omega)]; have := ih (x / 128); simp; omega
theorem uv_byte (f : Nat) : ∀ x, x < 2 * 128 ^ f → ∀ z ∈ uv f x, 0 ≤ z ∧ z < 256 := by
  induction f with
  | zero => intro x hx z hz; simp [uv] at hz hx; omega
  | succ f ih =>
    intro x hx z hz
    by_cases h : x < 128
    · rw [uv_small _ _ h] at hz; simp at hz; omega
    · rw [uv_step _ _ (by omega)] at hz
      rcases List.mem_cons.1 hz with rfl | hz
      · omega
      · exact ih (x / 128) (by rw [Nat.pow_succ] at hx; omega) z hz

theorem or128_all : ∀ x : Fin 256, x.val ||| 128 = x.val % 128 + 128 := by decide +kernel
theorem or128 (x : Int) (h0 : 0 ≤ x) (h1 : x < 256) : bits .or .u8 x 128 = x % 128 + 128 := by
  obtain ⟨a, rfl⟩ := Int.eq_ofNat_of_zero_le h0
  have ha : a < 256 := by omega
  have e := or128_all ⟨a, ha⟩
  simp only at e
  show IntKind.u8.wrap ((BitVec.ofInt 8 (a : Int) ||| BitVec.ofInt 8 ((128 : Nat) : Int)).toNat : Int) = _
  have o1 : ∀ n : Nat, n < 256 → (BitVec.ofInt 8 (n : Int)).toNat = n := fun n hn => by
    simp [BitVec.toNat_ofInt]; omega
  rw [BitVec.toNat_or, o1 a ha, o1 _ (by decide), e]
  rw [wraps_u8 _ (by omega) (by omega)]
  omega

set_option maxRecDepth 20000 in
set_option maxHeartbeats 800000 in
theorem varint_u (base : Nat) (b : Value) (zs : List Int) (x : Nat) (w : World) (hown : Own w base b zs) (hx : x < 18446744073709551616) (hl : zs.length ≤ 100000) (hbase : base ≤ w.heap.size) :
    Calls Yba.prog 13 #[b, .int .u64 (x : Int)] w fun e w' => ∃ v, e = .returned v ∧ Own w' base v (zs ++ uv 9 x) ∧ Below base w w' := by
  have HX : Hid (x < 18446744073709551616) := hx
  clear hx
  go_enter Yba.func13, Yba.ntmps13
  go_wp2
  go_loopw [0, 1] (fun b v wr => ∃ (ys : List Int) (f y : Nat), v = .int .u64 (y : Int) ∧ y < 2 * 128 ^ f ∧ y < 18446744073709551616 ∧ ys ++ uv f y = uv 9 x ∧ ys.length + f = 9 ∧ Own wr base b (zs ++ ys) ∧ Below base w wr) (fun _ v _ => (intOf v).toNat)
  case atStart => exact ⟨[], 9, x, rfl, by have := HX.out; omega, HX.out, rfl, rfl, by simpa using hown, Below.refl _ _⟩
  case round =>
    obtain ⟨ys, f, y, rfl, hy, hy64, hys, hlen, hown', hbel⟩ := hrel
    have hsz := hbel.size
    have HY64 : Hid (y < 18446744073709551616) := hy64
    generalize hYy : (y : Int) = Y
    have HYy : Hid ((y : Int) = Y) := hYy
    have hY0 : 0 ≤ Y := by omega
    have hyI : Y < 18446744073709551616 := by omega
    clear hy64
    by_cases hlt : Y < 128
    · have hlt' : y < 128 := by omega
      have HL : Hid (y < 128) := hlt'
      have e8 : Y % 256 = Y := by omega
      clear hlt' hYy
      have HB : Hid (Below base w (wr.alloc (.cells #[.int .u8 Y] 5))) := hbel.alloc (by omega) _
      have HU : Hid (ys ++ uv f y = uv 9 x) := hys
      clear hown hbel hys hy
      go_wp2_with (first | (at_builtin; refine wpList_append_bytes rfl _ _ rfl base _ (zs ++ ys) rfl (hown'.alloc _) (some ⟨wr.heap.size, 0, none⟩) 1 1 [Y] rfl rfl ?c1 (fun h => by cases h) (by simp; omega) (by simp; omega) w HB.out ?_))
      case c1 =>
        intro j hj
        have : j = 0 := by simpa using hj
        subst this
        exact ⟨_, rfl, by simp [Addr.add]⟩
      · intro v' w1 hown1 hb1 _
        go_wp2
        go_ret
        refine ⟨_, rfl, ?_, hb1⟩
        rw [uv_small _ _ HL.out, HYy.out] at HU
        rw [← HU.out]; first | exact hown1 | (rw [← List.append_assoc]; exact hown1)
    · cases f with
      | zero => exfalso; simp at hy; omega
      | succ f =>
        have HL : Hid (128 ≤ y) := by show 128 ≤ y; omega
        have hor : bits .or .u8 (Y % 256) 128 = Y % 128 + 128 := by rw [or128 _ (by omega) (by omega)]; omega
        have HB : Hid (Below base w (wr.alloc (.cells #[.int .u8 (Y % 128 + 128)] 5))) := hbel.alloc (by omega) _
        have HU : Hid (ys ++ uv (f + 1) y = uv 9 x) := hys
        have HY : Hid (y < 2 * 128 ^ (f + 1)) := hy
        clear hown hbel hys hy hYy
        go_wp2_with (first | (at_builtin; refine wpList_append_bytes rfl _ _ rfl base _ (zs ++ ys) rfl (hown'.alloc _) (some ⟨wr.heap.size, 0, none⟩) 1 1 [Y % 128 + 128] rfl rfl ?c1 (fun h => by cases h) (by simp; omega) (by simp; omega) w HB.out ?_))
        case c1 =>
          intro j hj
          have : j = 0 := by simpa using hj
          subst this
          exact ⟨_, rfl, by simp [Addr.add]⟩
        · intro v' w1 hown1 hb1 _
          go_wp2
          go_roundw
          case rel =>
            have HYY := HYy.out
            have HLL := HL.out
            have H64 := HY64.out
            refine ⟨ys ++ [Y % 128 + 128], f, y / 128, by congr 1; omega, ?_, by omega, ?_, by simp; omega, ?_, hb1⟩
            · have := HY.out; rw [Nat.pow_succ] at this; omega
            · have := HU.out; rw [uv_step _ _ HLL, HYY] at this; rw [← this]; simp
            · first | exact hown1 | (rw [← List.append_assoc]; exact hown1)
          case measure => have := HL.out; have := HYy.out; simp [intOf]; omega

/-- The ten bytes of an array, each of which may be written. -/
def Arr (w : World) (N : Nat) (zs : List Int) : Prop := ∀ j, j < zs.length → w.cell? ⟨N, j, none⟩ = some (.int .u8 (zs.getD j 0)) ∧ w.frozen? ⟨N, j, none⟩ = false
theorem Arr.set {w : World} {N : Nat} {zs : List Int} (h : Arr w N zs) (i : Nat) (z : Int) (hi : i < zs.length) : Arr (w.setCell ⟨N, i, none⟩ (.int .u8 z)) N (zs.set i z) := by
  intro j hj
  have hj' : j < zs.length := by simpa using hj
  refine ⟨?_, by rw [World.frozen?_setCell]; exact (h j hj').2⟩
  by_cases e : j = i
  · subst e; rw [World.cell?_setCell_same _ _ _ (h j hj').1]; simp [hj']
  · rw [World.cell?_setCell_other _ _ _ _ (by simp <;> omega), (h j hj').1]; simp [List.getElem?_set, Ne.symm e]
theorem take_set_next (L : List Int) (n : Nat) (z : Int) (h : n < L.length) : (L.set n z).take (n + 1) = L.take n ++ [z] := by
  rw [List.take_add_one, List.take_set_of_le (Nat.le_refl _)]
  simp [h]
theorem grown_setCell {w w' : World} {N : Nat} (h : w.grownBy w' (some N)) (o : Nat) (u : Value) : w.grownBy (w'.setCell ⟨N, o, none⟩ u) (some N) :=
  ⟨h.os, h.tape, h.output, by simpa [World.setCell] using h.size, fun k hk hne => (Below.heap_setCell _ _ _ _ (by intro e; exact hne (by simp [e]))).trans (h.block k hk hne)⟩

set_option maxHeartbeats 800000 in
theorem putuv_u (N : Nat) (x : Nat) (w : World) (hx : x < 18446744073709551616) (hc : Arr w N (List.replicate 10 0)) (hN : N < w.heap.size) :
    Calls Yba.prog 20 #[.slice (some ⟨N, 0, none⟩) 10 10, .int .u64 (x : Int)] w fun e w' => e = .returned (.int .i64 ((uv 9 x).length : Int)) ∧ w.grownBy w' (some N) ∧ ∃ L : List Int, L.length = 10 ∧ Arr w' N L ∧ L.take (uv 9 x).length = uv 9 x := by
  have HX : Hid (x < 18446744073709551616) := hx
  clear hx
  go_enter Yba.func20, Yba.ntmps20
  go_wp2
  go_loopw [1, 5] (fun v i wr => ∃ (ys L : List Int) (f y : Nat), v = .int .u64 (y : Int) ∧ i = .int .i64 (ys.length : Int) ∧ y < 2 * 128 ^ f ∧ y < 18446744073709551616 ∧ ys ++ uv f y = uv 9 x ∧ ys.length + f = 9 ∧ L.length = 10 ∧ Arr wr N L ∧ L.take ys.length = ys ∧ w.grownBy wr (some N)) (fun v _ _ => (intOf v).toNat)
  case atStart => exact ⟨[], List.replicate 10 0, 9, x, rfl, rfl, by have := HX.out; omega, HX.out, rfl, rfl, by simp, hc, by simp, World.grownBy.refl _ _⟩
  case round =>
    obtain ⟨ys, L, f, y, rfl, rfl, hy, hy64, hys, hlen, hL, hA, hT, hG⟩ := hrel
    have HA : Hid (Arr wr N L) := hA
    have hcell := (hA ys.length (by omega)).1
    have hfro := (hA ys.length (by omega)).2
    have HU : Hid (ys ++ uv f y = uv 9 x) := hys
    have HT : Hid (L.take ys.length = ys) := hT
    have HY : Hid (y < 2 * 128 ^ f) := hy
    have HY64 : Hid (y < 18446744073709551616) := hy64
    generalize hYy : (y : Int) = Y
    have HYy : Hid ((y : Int) = Y) := hYy
    have hY0 : 0 ≤ Y := by omega
    have hyI : Y < 18446744073709551616 := by omega
    clear hA hc hys hT hy hy64
    by_cases hlt : Y < 128
    · have hlt' : y < 128 := by omega
      have HL : Hid (y < 128) := hlt'
      have e8 : Y % 256 = Y := by omega
      clear hlt' hYy
      go_wp2
      go_ret
      rw [uv_small _ _ HL.out, HYy.out] at HU
      have hu := HU.out
      refine ⟨?_, grown_setCell hG _ _, L.set ys.length Y, by simpa using hL, HA.out.set _ _ (by omega), ?_⟩
      · rw [← hu]; simp
      · rw [← hu]
        simp only [List.length_append, List.length_singleton]
        rw [take_set_next _ _ _ (by omega), HT.out]
    · cases f with
      | zero => exfalso; have := HY.out; simp at this; omega
      | succ f =>
        have HL : Hid (128 ≤ y) := by show 128 ≤ y; omega
        have hor : bits .or .u8 (Y % 256) 128 = Y % 128 + 128 := by rw [or128 _ (by omega) (by omega)]; omega
        clear hYy
        go_wp2
        go_roundw
        case rel =>
          have HYY := HYy.out
          have HLL := HL.out
          have H64 := HY64.out
          refine ⟨ys ++ [Y % 128 + 128], L.set ys.length (Y % 128 + 128), f, y / 128, by congr 1; omega, by simp, ?_, by omega, ?_, by simp; omega, by simpa using hL, HA.out.set _ _ (by omega), ?_, grown_setCell hG _ _⟩
          · have := HY.out; rw [Nat.pow_succ] at this; omega
          · have := HU.out; rw [uv_step _ _ HLL, HYY] at this; rw [← this]; simp
          · simp only [List.length_append, List.length_singleton]
            rw [take_set_next _ _ _ (by omega), HT.out]
        case measure => have := HL.out; have := HYy.out; simp [intOf]; omega
end Go.Proofs.Ybulkcmdi
