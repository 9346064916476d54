import Derived.Test.YbulkcmdiMtf
namespace Go.Proofs.Ybulkcmdi
open Go.RowKit
set_option linter.unusedVariables false
set_option linter.unusedSimpArgs false

def AppPost (E : Nat) (T : TypeId) (R cap : Nat) (L : Nat → Int) (zs : List Int) (w : World) (e : Ending) (w' : World) : Prop :=
  e = .returned (.slice (some ⟨R, 0, none⟩) zs.length cap) ∧ RowAt w' E T 256 (mtfL L zs) ∧ (∃ g, RowAt w' R 5 cap g ∧ ∀ j, j < zs.length → g j = (mtfR L zs).getD j 0) ∧ Fr (fun k => k = E ∨ k = R) w w'

theorem oneN (n : Nat) (L : Nat → Int) : (arrN n L).all (·.oneCell') = true := by
  rw [Array.all_eq_true]; intro i hi; simp [arrN]; rfl
theorem RowAt.new (w : World) (T : TypeId) (n : Nat) (L : Nat → Int) : RowAt (w.alloc (.cells (arrN n L) T)) w.heap.size T n L := heap_alloc_last w _
theorem RowAt.setRow {w : World} {B : Nat} {T : TypeId} {n : Nat} {L : Nat → Int} (h : RowAt w B T n L) (M : Nat → Int) : RowAt (w.setRow B (arrN n M)) B T n M := by
  unfold RowAt World.setRow at *
  simp [Array.getElem?_modify, h]
theorem RowAt.farRow {w : World} {B C : Nat} {T : TypeId} {n : Nat} {L : Nat → Int} (h : RowAt w B T n L) (hne : B ≠ C) (cs : Array Value) : RowAt (w.setRow C cs) B T n L := (setRow_other w C B cs hne).trans h
theorem mtf1_zero (L : Nat → Int) (c : Int) (h : L 0 = c) : mtf1 L c = L ∧ posOf L c = 0 := by
  have hp : posOf L c = 0 := posOf_eq L c 0 (by omega) h (fun k hk => by omega)
  refine ⟨?_, hp⟩
  unfold mtf1; rw [hp]
  funext k; unfold rot; repeat' split
  all_goals first | rfl | (exfalso; omega) | (congr 1; omega)
theorem take_next (zs : List Int) (k : Nat) (hk : k < zs.length) : zs.take (k + 1) = zs.take k ++ [zs.getD k 0] := by
  rw [List.take_add_one]; simp [List.getElem?_eq_getElem hk]
theorem mtf_step (L : Nat → Int) (zs : List Int) (k : Nat) (hk : k < zs.length) : mtfL L (zs.take (k + 1)) = mtf1 (mtfL L (zs.take k)) (zs.getD k 0) ∧ (mtfR L zs).getD k 0 = (posOf (mtfL L (zs.take k)) (zs.getD k 0) : Int) := by
  constructor
  · rw [take_next zs k hk, mtfL_app]; rfl
  · have e : zs = zs.take k ++ (zs.getD k 0 :: zs.drop (k + 1)) := by
      have h1 := List.take_append_drop k zs
      rw [List.drop_eq_getElem_cons hk] at h1
      have : zs.getD k 0 = zs[k] := by simp [hk]
      rw [this]; exact h1.symm
    have hl : (mtfR L (zs.take k)).length = k := by rw [mtfR_len]; simp; omega
    have : mtfR L zs = mtfR L (zs.take k) ++ mtfR (mtfL L (zs.take k)) (zs.getD k 0 :: zs.drop (k + 1)) := by
      rw [← mtfR_app, ← e]
    rw [this, List.getD_eq_getElem?_getD, List.getElem?_append_right (by omega), hl]
    simp [mtfR]

set_option maxHeartbeats 3200000 in
set_option maxRecDepth 100000 in
theorem app_u (E : Nat) (T : TypeId) (R cap : Nat) (L g : Nat → Int) (ao : Option Addr) (cs : Nat) (zs : List Int) (w : World) (hE : RowAt w E T 256 L) (hR : RowAt w R 5 cap g) (hER : E ≠ R) (hrd : Rd w ao zs) (hao : ∀ x, ao = some x → x.block ≠ R)
    (hin : AllIn L) (hz : ∀ z ∈ zs, 0 ≤ z ∧ z < 256) (hc : zs.length ≤ cap) (hcap : cap ≤ 9000) (h0 : 0 < zs.length) :
    Calls Yba.prog 17 #[.pointer (some ⟨E, 0, none⟩), .slice (some ⟨R, 0, none⟩) 0 cap, .slice ao zs.length cs] w fun e w' => AppPost E T R cap L zs w e w' := by
  have HE : Hid (RowAt w E T 256 L) := hE
  have HR : Hid (RowAt w R 5 cap g) := hR
  have HRD : Hid (Rd w ao zs) := hrd
  have HAO := (show Hid _ from hao)
  have HIN : Hid (AllIn L) := hin
  have HZ := (show Hid _ from hz)
  clear hE hR hrd hao hin hz
  go_enter Yba.func17, Yba.ntmps17
  go_wp2_with fail
  refine (extend_u R cap zs.length w hc hcap h0).mono ?_
  rintro e w1 ⟨rfl, q, rfl⟩
  have hE1 : RowAt (w.drewN q) E T 256 L := HE.out.drewN q
  have hci : (zs.length : Int) ≤ cap := by omega
  have hz47 := zero47
  go_wp2_with (first | (refine wpList_load_row rfl 47 _ rfl E rfl T (arrN 256 L) (0, 0) _ hE1 Yba.underlying47 rfl (by rw [arrN_size]; exact size47) ?_) | (refine wpList_store_row rfl 47 _ _ rfl (w.drewN q).heap.size (arrN 256 L) rfl rfl 47 (arrN 256 (fun _ => 0)) (heap_alloc_last _ _) (by rw [arrN_size]; exact size47) (by rw [arrN_size, arrN_size]) (oneN _ _) ?_))
  obtain ⟨W, hW⟩ : ∃ W, W = ((w.drewN q).alloc (Obj.cells (arrN 256 fun _ => 0) 47)).setRow w.heap.size (arrN 256 L) := ⟨_, rfl⟩
  rw [← hW]
  generalize hB : w.heap.size = B at *
  have hEB : E < B := by rw [← hB]; exact HE.out.lt
  have hRB : R < B := by rw [← hB]; exact HR.out.lt
  have hq : (w.drewN q).heap.size = B := by rw [← hB]; simp
  have s1 : RowAt W B 47 256 L := by
    have h := RowAt.new (w.drewN q) 47 256 (fun _ => 0)
    rw [hq] at h
    rw [hW]; exact h.setRow L
  have s2 : Fr (fun k => k = B) w W := by
    rw [hW]
    exact ((Fr.drewN _ _ _).trans (Fr.alloc _ _ _)).trans (Fr.setRow _ _ _)
  have s3 : Fr (fun k => k = R) w W := ⟨s2.os, s2.tape, s2.output, s2.size, fun k hk hn => s2.block k hk (by omega)⟩
  have S1 : Hid (RowAt W B 47 256 L) := s1
  have S2 : Hid (Fr (fun k => k = R) w W) := s3
  have S3 : Hid (RowAt W R 5 cap g) := HR.out.kept s2 (by omega)
  have HB := (show Hid _ from hB)
  clear s1 s2 s3 hW hq hE1 hz47 hB
  go_loopw [31] (fun ii wr => ∃ k : Nat, k ≤ zs.length ∧ ii = .int .i64 (k : Int) ∧ RowAt wr B 47 256 (mtfL L (zs.take k)) ∧ (∃ g', RowAt wr R 5 cap g' ∧ ∀ j, j < k → g' j = (mtfR L zs).getD j 0) ∧ Fr (fun k => k = R) w wr) (fun ii _ => zs.length - (intOf ii).toNat)
  case atStart => exact ⟨0, Nat.zero_le _, rfl, S1.out, ⟨g, S3.out, fun j hj => by omega⟩, S2.out⟩
  case round =>
    obtain ⟨w2, hw2⟩ : ∃ w2, w2 = wr := ⟨_, rfl⟩
    subst hw2
    obtain ⟨k, hk, rfl, r1, ⟨g', r2, r3⟩, r4⟩ := hrel
    clear S1 S2 S3
    have F4 : Hid (Fr (fun k => k = R) w w2) := r4
    have G3 := (show Hid _ from r3)
    have hsz : B < w2.heap.size := r1.lt
    clear r3 r4
    by_cases hlt : k < zs.length
    · obtain ⟨M1, M2⟩ := mtf_step L zs k hlt
      obtain ⟨x, hx, gx⟩ := HRD.out k hlt
      have hzk := HZ.out (zs.getD k 0) (by simp [hlt])
      have hix : ∀ wx, Sem.run Yba.prog (Instr.indexAt 22 (.slice ao zs.length cs) (.int .i64 (k : Int))) wx = .ok (.pointer (some (x.add k))) wx := by
        intro wx
        rw [hx]
        have hk0 : (0 : Int) ≤ k := by omega
        have hk1 : (k : Int) < zs.length := by omega
        go_simp
      have hcx : w2.cell? (x.add k) = some (.int .u8 (zs.getD k 0)) := (F4.out.cell (World.block_lt_of_cell? _ _ gx) (by rw [add_block]; exact HAO.out x hx)).trans gx
      have hxB : x.block ≠ B := by
        have h1 := World.block_lt_of_cell? _ _ gx
        rw [add_block, HB.out] at h1; omega
      have hAll : AllIn (mtfL L (zs.take k)) := AllIn.mtfL _ HIN.out (fun z hz => HZ.out z (List.mem_of_mem_take hz))
      obtain ⟨P1, P2, P3⟩ := posOf_spec (mtfL L (zs.take k)) (zs.getD k 0) (hAll _ hzk.1 hzk.2)
      have Z1 := mtf1_zero (mtfL L (zs.take k)) (zs.getD k 0)
      have HM1 : Hid (mtfL L (zs.take (k + 1)) = mtf1 (mtfL L (zs.take k)) (zs.getD k 0)) := M1
      have HM2 : Hid ((mtfR L zs).getD k 0 = (posOf (mtfL L (zs.take k)) (zs.getD k 0) : Int)) := M2
      clear M1 M2 hx gx
      generalize hM : mtfL L (zs.take k) = M at *
      generalize hC : zs.getD k 0 = c at *
      clear hM hC
      have c0 := r1.cell 0 (by omega)
      have HZ1 := (show Hid _ from Z1)
      have HR1 : Hid (RowAt w2 B 47 256 M) := r1
      have HR2 : Hid (RowAt w2 R 5 cap g') := r2
      have HP1 : Hid (posOf M c < 256) := P1
      have HP2 : Hid (M (posOf M c) = c) := P2
      have HP3 := (show Hid _ from P3)
      have fR := r2.frozen k
      have cR := r2.cell k (by omega)
      have hki : (k : Int) < zs.length := by omega
      have hRB' : R ≠ B := by omega
      clear P1 P2 P3 Z1 r1 r2
      by_cases hM0 : M 0 = c
      · have hM0' := HZ1.out hM0
        have HHM := (show Hid _ from hM0')
        clear hM0'
        have c0' : w2.cell? ⟨B, 0, none⟩ = some (.int .u8 c) := by rw [c0, hM0]
        clear c0 HZ1
        go_wp2
        go_roundw
        case rel =>
          refine ⟨k + 1, by omega, by go_num, ?_, ⟨_, HR2.out.set k 0, fun j hj => ?_⟩, F4.out.trans (Fr.setCell (R := fun k => k = R) w2 rfl _)⟩
          · rw [HM1.out, HHM.out.1]; exact HR1.out.far (Ne.symm hRB') _
          · unfold upd
            by_cases e : j = k
            · rw [if_pos e, e, HM2.out, HHM.out.2]; rfl
            · rw [if_neg e]; exact G3.out j (by omega)
        case measure => simp [intOf]; omega
      · have hM0' : ¬ (c = M 0) := fun h => hM0 h.symm
        go_wp2
        go_loopw [11, 12] (fun pp pv wi => ∃ p : Nat, 1 ≤ p ∧ p ≤ posOf M c ∧ pp = .int .u8 (p : Int) ∧ pv = .int .u8 (M (p - 1)) ∧ RowAt wi B 47 256 (shf M p) ∧ Fr (fun k => k = B) w2 wi) (fun pp _ _ => 256 - (intOf pp).toNat)
        case atStart =>
          refine ⟨1, Nat.le_refl _, ?_, rfl, rfl, by rw [shf_one]; exact HR1.out, Fr.refl _ _⟩
          rcases Nat.eq_zero_or_pos (posOf M c) with h | h
          · exact absurd (by rw [← h]; exact HP2.out) hM0
          · exact h
        case round =>
          obtain ⟨p, hp1, hp2, rfl, rfl, i1, i2⟩ := hrel
          have I1 : Hid (RowAt wr B 47 256 (shf M p)) := i1
          have I2 : Hid (Fr (fun k => k = B) w2 wr) := i2
          have ci := i1.cell p (by have := HP1.out; omega)
          have fi := i1.frozen p
          have hpI : (p : Int) < 256 := by have := HP1.out; omega
          have hsh : shf M p p = M p := by unfold shf; rw [if_neg (by omega)]
          rw [hsh] at ci
          clear i1 i2 hsh
          by_cases hMp : M p = c
          · have hpp : posOf M c = p := posOf_eq M c p (by have := HP1.out; omega) hMp (fun j hj => HP3.out j (by omega))
            have HPP : Hid (posOf M c = p) := hpp
            have HMP : Hid (M p = c) := hMp
            have J1 : Hid (RowAt ((wr.setCell ⟨B, p, none⟩ (.int .u8 (M (p - 1)))).setCell ⟨B, 0, none⟩ (.int .u8 c)) B 47 256 (mtf1 M c)) := by
              have h1 := I1.out.set p (M (p - 1))
              rw [shf_next M p hp1] at h1
              have h2 := h1.set 0 (M p)
              rw [shf_done M p hp1] at h2
              show RowAt _ _ _ _ _
              unfold mtf1; rw [hpp, ← hMp]; exact h2
            have fz : wr.frozen? ⟨B, 0, none⟩ = false := I1.out.frozen 0
            have cz : ∃ u, wr.cell? ⟨B, 0, none⟩ = some u := ⟨_, I1.out.cell 0 (by omega)⟩
            obtain ⟨u, cz⟩ := cz
            have hp0 : ¬ (p = 0) := by omega
            have cR' : wr.cell? ⟨R, k, none⟩ = some (.int .u8 (g' k)) := (I2.out.cell (p := ⟨R, k, none⟩) (show R < w2.heap.size by omega) hRB').trans cR
            have fR' : wr.frozen? ⟨R, k, none⟩ = false := (I2.out.frozen (p := ⟨R, k, none⟩) (show R < w2.heap.size by omega) hRB').trans fR
            have hMp' : c = M p := hMp.symm
            rw [hMp] at ci
            clear hpp hMp' hMp
            go_wp2
            go_roundw
            case rel =>
              refine ⟨k + 1, by omega, by go_num, ?_, ⟨_, RowAt.set (L := g') ?_ k (p : Int), fun j hj => ?_⟩, ?_⟩
              · rw [HM1.out]; exact J1.out.far (Ne.symm hRB') _
              · exact (((HR2.out.kept I2.out hRB').far hRB' _).far hRB' _)
              · unfold upd
                by_cases e : j = k
                · rw [if_pos e, e, HM2.out, HPP.out]
                · rw [if_neg e]; exact G3.out j (by omega)
              · have h3 := (I2.out.trans (Fr.setCell (R := fun k => k = B) wr (a := ⟨B, p, none⟩) rfl (.int .u8 (M (p - 1))))).trans (Fr.setCell (R := fun k => k = B) _ (a := ⟨B, 0, none⟩) rfl (.int .u8 c))
                have h4 : Fr (fun k => k = R) w _ := ⟨h3.os.trans F4.out.os, h3.tape.trans F4.out.tape, h3.output.trans F4.out.output, Nat.le_trans F4.out.size h3.size, fun i hi hn => (h3.block i (Nat.lt_of_lt_of_le hi F4.out.size) (show ¬ (i = B) by have := HB.out; omega)).trans (F4.out.block i hi hn)⟩
                exact h4.trans (Fr.setCell (R := fun k => k = R) _ rfl _)
            case measure => simp [intOf]; omega
          · have hMp' : ¬ (c = M p) := fun h => hMp h.symm
            have J1 : Hid (RowAt (wr.setCell ⟨B, p, none⟩ (.int .u8 (M (p - 1)))) B 47 256 (shf M (p + 1))) := by
              have h1 := I1.out.set p (M (p - 1))
              rw [shf_next M p hp1] at h1
              exact h1
            have hpl : p < posOf M c := by
              rcases Nat.lt_or_ge p (posOf M c) with h | h
              · exact h
              · exact absurd (by rw [Nat.le_antisymm hp2 h]; exact HP2.out) hMp
            have HPL : Hid (p < posOf M c) := hpl
            have hpI2 : (p : Int) + 1 < 256 := by have := HP1.out; omega
            clear hpl
            go_wp2
            go_roundw
            case rel => exact ⟨p + 1, by omega, HPL.out, by go_num, by simp, J1.out, I2.out.trans (Fr.setCell (R := fun k => k = B) wr rfl _)⟩
            case measure => simp [intOf]; omega
    · obtain rfl : k = zs.length := by omega
      have hEw : RowAt w2 E T 256 L := HE.out.kept F4.out hER
      rw [List.take_length] at r1
      go_wp2_with (first | (refine wpList_load_row rfl 47 _ rfl B rfl 47 (arrN 256 (mtfL L zs)) (0, 0) _ r1 Yba.underlying47 rfl (by rw [arrN_size]; exact size47) ?_) | (refine wpList_store_row rfl 47 _ _ rfl E (arrN 256 (mtfL L zs)) rfl rfl T (arrN 256 L) hEw (by rw [arrN_size]; exact size47) (by rw [arrN_size, arrN_size]) (oneN _ _) ?_))
      go_ret
      refine ⟨rfl, hEw.setRow _, ⟨g', r2.farRow (Ne.symm hER) _, G3.out⟩, ?_⟩
      exact (F4.out.mono (fun k _ h => Or.inr h)).trans ((Fr.setRow _ _ _).mono (fun k _ h => Or.inl h))
end Go.Proofs.Ybulkcmdi
