import Derived.Test.YbulkcmdiZeros
namespace Go.Proofs.Ybulkcmdi
open Go.RowKit
set_option linter.unusedVariables false
set_option linter.unusedSimpArgs false

theorem madeCells_one (z : Value) (n : Nat) : madeCells #[z] n = Array.replicate n z := by
  apply Array.ext
  · simp [madeCells]
  · intro i h1 h2
    simp [madeCells, Nat.mod_one]
theorem make0 (cap : Nat) (h : cap ≤ 100000) (w : World) : Sem.run Yba.prog (Instr.makeSlice 22 (.int .i64 0) (.int .i64 (cap : Int))) w = .ok (.slice (some ⟨w.heap.size, 0, none⟩) 0 cap) (w.alloc (.cells (Array.replicate cap (.int .u8 0)) 5)) := by
  obtain ⟨i0, hi, hz0, hz1, hz2⟩ := info_parts Yba.info5
  have := run_make (P := Yba.prog) (w := w) 22 5 i0 (.int .u8 0) Yba.underlying22 hi hz0 .i64 .i64 0 (cap : Int) (by omega) (by omega) (by rw [hz2]; omega) (by omega)
  rw [hz1, Nat.mul_one, show (Value.int .u8 0).cells = #[.int .u8 0] from rfl, madeCells_one] at this
  exact this
theorem makeN (n : Nat) (h : n ≤ 100000) (w : World) : Sem.run Yba.prog (Instr.makeSlice 22 (.int .i64 (n : Int)) (.int .i64 (n : Int))) w = .ok (.slice (some ⟨w.heap.size, 0, none⟩) n n) (w.alloc (.cells (Array.replicate n (.int .u8 0)) 5)) := by
  have := run_make_row' (P := Yba.prog) 22 5 (.int .u8 0) 1 Yba.underlying22 Yba.info5 rfl .i64 .i64 n (by omega) (by omega) w
  rw [madeCells_one] at this
  exact this
theorem own_made (w : World) (base cap : Nat) (hb : base ≤ w.heap.size) (h : cap ≤ 100000) : Own (w.alloc (.cells (Array.replicate cap (.int .u8 0)) 5)) base (.slice (some ⟨w.heap.size, 0, none⟩) 0 cap) [] :=
  World.ownsRow_made w (Array.replicate cap (.int .u8 0)) cap hb (by unfold maxLen; omega) (by simp)
theorem rd_zeros (w : World) (n : Nat) : Rd (w.alloc (.cells (Array.replicate n (.int .u8 0)) 5)) (some ⟨w.heap.size, 0, none⟩) (List.replicate n 0) := by
  intro j hj
  have hj' : j < n := by simpa using hj
  refine ⟨_, rfl, ?_⟩
  rw [add_eq, Nat.zero_add, World.cell?_alloc_new]
  simp [hj', List.getElem?_replicate]
theorem Own.slice {w : World} {base : Nat} {v : Value} {zs : List Int} (h : Own w base v zs) : ∃ ao n c, v = .slice ao n c := by
  rcases h.shape with ⟨rfl, _⟩ | ⟨g, cap, rfl, _⟩
  · exact ⟨_, _, _, rfl⟩
  · exact ⟨_, _, _, rfl⟩
theorem varint_v (base : Nat) (b : Value) (zs : List Int) (x : Nat) (X : Int) (hX : (x : Int) = X) (w : World) (hown : Own w base b zs) (hx : x < 18446744073709551616) (hl : zs.length ≤ 100000) (hbase : base ≤ w.heap.size) (us : List Int) (hus : us = uv 9 x) :
    Calls Yba.prog 13 #[b, .int .u64 X] w fun e w' => ∃ v, e = .returned v ∧ Own w' base v (zs ++ us) ∧ Below base w w' := by
  subst hX hus
  exact varint_u base b zs x w hown hx hl hbase
theorem rd_empty (w : World) (ao : Option Addr) : Rd w ao [] := fun j hj => by simp at hj

set_option maxHeartbeats 1600000 in
set_option maxRecDepth 20000 in
theorem count_u (a0 a1 : Option Addr) (c0 c1 : Nat) (ds code : List Int) (x : Nat) (X top : Int) (w : World) (h0 : 0 ≤ top) (h1 : top ≤ 255) (hx : x < 18446744073709551616) (hX : (x : Int) = X)
    (hd : ds.length ≤ 1024) (hc : code.length ≤ 4096) (rd0 : Rd w a0 ds) (rd1 : Rd w a1 code) (n0 : a0 = none → c0 = 0) (n1 : a1 = none → c1 = 0) :
    Calls Yba.prog 5 #[.slice a0 ds.length c0, .slice a1 code.length c1, .int .u64 X, .int .u8 top] w fun e w' => e = .returned (.bool true) ∧ Below w.heap.size w w' := by
  have hle0 : ¬ ((1024 : Int) < ds.length) := by omega
  have hle1 : ¬ ((4096 : Int) < code.length) := by omega
  obtain ⟨cp, hcp⟩ : ∃ cp : Nat, (ds.length : Int) + 10 + code.length = cp := ⟨ds.length + 10 + code.length, by omega⟩
  have hmk := make0 cp (by omega)
  obtain ⟨pad, hpad⟩ : ∃ pad : List Int, pad = List.replicate 10 0 := ⟨_, rfl⟩
  have hpl : pad.length = 10 := by rw [hpad]; rfl
  have HPAD : Hid (pad = List.replicate 10 0) := hpad
  clear hpad
  have HX : Hid ((x : Int) = X) := hX
  have HXL : Hid (x < 18446744073709551616) := hx
  clear hX hx
  go_enter Yba.func5, Yba.ntmps5
  go_wp2_with (first | (at_builtin; refine wpList_append_bytes rfl _ _ rfl w.heap.size _ [] rfl (own_made w w.heap.size cp (Nat.le_refl _) (by omega)) a0 ds.length c0 ds rfl rfl (rd0.old ((Below.refl _ _).alloc (Nat.le_refl _) _)) n0 (by simp; omega) (by simp) w ((Below.refl _ _).alloc (Nat.le_refl _) _) ?_))
  intro v1 w1 o1' b1 _
  have o1 : Own w1 w.heap.size v1 ds := by simpa using o1'
  clear o1'
  have sz1 := b1.size
  go_wp2_with (first | (at_builtin; refine wpList_append_zeros rfl _ _ rfl w.heap.size v1 ds rfl o1 10 rfl (by omega) (by omega) (by omega) w b1 ?_))
  intro v2 w2 o2' b2 _
  have o2 : Own w2 w.heap.size v2 (ds ++ pad) := by rw [HPAD.out]; exact o2'
  clear o2'
  have sz2 := b2.size
  go_wp2_with (first | (at_builtin; refine wpList_append_bytes rfl _ _ rfl w.heap.size v2 (ds ++ pad) rfl o2 a1 code.length c1 code rfl rfl (rd1.old b2) n1 (by simp; omega) (by omega) w b2 ?_))
  intro v3 w3 o3 b3 _
  have sz3 := b3.size
  clear o1 o2 b1 b2 hmk
  obtain ⟨ao3, m3, c3, rfl⟩ := o3.slice
  obtain ⟨R, hR⟩ : ∃ R, R = ds ++ uv 9 x ++ (code ++ if top = 0 then [] else [top]) := ⟨_, rfl⟩
  have hRl : R.length ≤ 10000 := by
    have := uv_len 9 x
    rw [hR]; split <;> simp <;> omega
  have HR : Hid (R = ds ++ uv 9 x ++ (code ++ if top = 0 then [] else [top])) := hR
  have key := finish_u w3.heap.size 42 w.heap.size (.slice ao3 m3 c3) ds pad code ds.length x top (top * 16777216) 4294967295 (w3.alloc (.cells #[.int .u32 (top * 16777216), .int .u32 4294967295, .slice ao3 m3 c3, .nilIface, .int .i64 ds.length, .int .u64 X] 42)) h0 h1 rfl HXL.out
    (TypAt.new _ _ _) (by decide) (World.cell?_alloc_new _ _ _ _) (World.cell?_alloc_new _ _ _ _) (World.cell?_alloc_new _ _ _ _) (World.cell?_alloc_new _ _ _ _) X HX.out (World.cell?_alloc_new _ _ _ _) (by first | exact o3.alloc _ | (rw [List.append_assoc]; exact o3.alloc _)) rfl hpl (by omega) (by simp; omega) R hR
  clear hR
  go_wp2_with fail
  refine key.mono ?_
  clear key
  rintro e w5 ⟨y, n, cap, rfl, hn, hrd, ⟨hy1, hy2⟩, hF, _, _⟩
  have b5 : Below w.heap.size w w5 := (b3.alloc sz3 _).trans (hF.below (by simp; omega) (by rintro k (rfl | ⟨h, _⟩); exact sz3; exact h))
  have sz5 := b5.size
  clear hF o3 b3
  subst hn
  have hb6 : Below w5.heap.size w5 (w5.alloc (.cells (Array.replicate 0 (.int .u8 0)) 5)) := (Below.refl _ _).alloc (Nat.le_refl _) _
  go_wp2_with (first | (at_builtin; refine wpList_append_bytes rfl _ _ rfl w5.heap.size _ [] rfl (by exact own_made w5 w5.heap.size 0 (Nat.le_refl _) (by omega)) a0 ds.length c0 ds rfl rfl (by exact rd0.old (b5.trans (hb6.mono sz5))) n0 (by simp; omega) (by simp) w5 (by exact hb6) ?_))
  intro v6 w6 o6' b6 _
  have o6 : Own w6 w5.heap.size v6 ds := by simpa using o6'
  clear o6'
  have sz6 := b6.size
  obtain ⟨us, hus⟩ : ∃ us, us = uv 9 x := ⟨_, rfl⟩
  have hul : us.length ≤ 10 := by rw [hus]; exact (uv_len 9 x).2
  have HU : Hid (us = uv 9 x) := hus
  have key := varint_v w5.heap.size v6 ds x X HX.out w6 o6 HXL.out (by omega) sz6 us hus
  clear hus
  go_wp2_with fail
  refine key.mono ?_
  clear key
  rintro e w7 ⟨v7, rfl, o7, b7⟩
  have b67 := b6.trans b7
  have sz7 := b67.size
  go_wp2_with (first | (at_builtin; refine wpList_append_bytes rfl _ _ rfl w5.heap.size v7 (ds ++ us) rfl o7 a1 code.length c1 code rfl rfl (by exact rd1.old (b5.trans (b67.mono sz5))) n1 (by simp; omega) sz7 w5 b67 ?_))
  intro v8 w8 o8 b8 _
  have sz8 := b8.size
  have hrd8 := hrd.below b8 (fun x hx => by cases hx; exact hy2)
  clear o6 o7 b6 b7 b67
  by_cases ht : top = 0
  · have hte : (top == 0) = true := by simp [ht]
    have hR8 : Own w8 w5.heap.size v8 R := by rw [HR.out, if_pos ht, ← HU.out, List.append_nil]; first | exact o8 | (rw [List.append_assoc]; exact o8)
    obtain ⟨ao8, m8, c8, rfl⟩ := hR8.slice
    have hr8 := hR8.rd
    obtain ⟨rfl, hr8, _⟩ := hr8
    have hceq := ceq_u (some y) ao8 R.length cap c8 R w8 rfl (by omega) hrd8 hr8
    clear o8 hR8 hrd8 hr8 ht
    go_wp2_with fail
    refine hceq.mono ?_
    rintro e w9 ⟨rfl, m, rfl⟩
    go_wp2
    go_ret
    exact ⟨rfl, below_drewN (b5.trans (b8.mono sz5)) _⟩
  · have hte : (top == 0) = false := by simp [ht]
    have HT : Hid (¬ top = 0) := ht
    clear ht
    have o8' : Own w8 w5.heap.size v8 (ds ++ us ++ code) := by first | exact o8 | (rw [List.append_assoc]; exact o8)
    clear o8
    go_wp2_with (first | (at_builtin; refine wpList_append_bytes rfl _ _ rfl w5.heap.size v8 (ds ++ us ++ code) rfl (o8'.alloc _) (some ⟨w8.heap.size, 0, none⟩) 1 1 [top] rfl rfl ?c1 (fun h => by cases h) (by simp; omega) (by simp; omega) w5 (b8.alloc sz8 _) ?_))
    case c1 =>
      intro j hj
      have : j = 0 := by simpa using hj
      subst this
      exact ⟨_, rfl, by simp [Addr.add]⟩
    · intro v9 w9 o9 b9 _
      have hrd9 := hrd.below b9 (fun x hx => by cases hx; exact hy2)
      have hR9 : Own w9 w5.heap.size v9 R := by
        have e : R = ds ++ us ++ code ++ [top] := by rw [HR.out, if_neg HT.out, ← HU.out]; simp
        rw [e]; first | exact o9 | (simpa using o9)
      obtain ⟨ao9, m9, c9, rfl⟩ := hR9.slice
      have hr9 := hR9.rd
      obtain ⟨rfl, hr9, _⟩ := hr9
      have hceq := ceq_u (some y) ao9 R.length cap c9 R w9 rfl (by omega) hrd9 hr9
      clear o9 hR9 hrd9 hr9 o8' hrd8
      go_wp2_with fail
      refine hceq.mono ?_
      rintro e w10 ⟨rfl, m, rfl⟩
      go_wp2
      go_ret
      exact ⟨rfl, below_drewN (b5.trans (b9.mono sz5)) _⟩
end Go.Proofs.Ybulkcmdi
