import Derived.Test.YbulkcmdiMod
namespace Go.Proofs.Ybulkcmdi
open Go.RowKit
set_option linter.unusedVariables false
set_option linter.unusedSimpArgs false

def LawPost (w : World) (e : Ending) (w' : World) : Prop := e = .returned (.bool true) ∧ Below w.heap.size w w'

theorem RowAt.rd {w : World} {C : Nat} {T : TypeId} {zs : List Int} {g : Nat → Int} (h : RowAt w C T zs.length g) (hg : ∀ j, j < zs.length → g j = zs.getD j 0) : Rd w (some ⟨C, 0, none⟩) zs := fun j hj => by
  refine ⟨_, rfl, ?_⟩
  rw [add_eq, Nat.zero_add, ← hg j hj]
  exact h.cell j hj

set_option maxHeartbeats 3200000 in
set_option maxRecDepth 100000 in
theorem match_u (a0 : Option Addr) (c0 : Nat) (ds : List Int) (k : Int) (w : World) (hl : ds.length ≤ 9000) (hk0 : 0 ≤ k) (hk : k < 256) (hrd : Rd w a0 ds) (hby : Bytes ds) :
    Calls Yba.prog 3 #[.slice a0 ds.length c0, .int .u8 k] w fun e w' => LawPost w e w' := by
  have HRD : Hid (Rd w a0 ds) := hrd
  have HBY : Hid (Bytes ds) := hby
  have hmk := makeN ds.length (by omega)
  have hlI : ¬ ((9000 : Int) < ds.length) := by omega
  obtain ⟨zs, HZ⟩ : ∃ zs, Hid (zs = ds.map (fun b => b % (k + 1))) := ⟨_, rfl⟩
  have HZL : Hid (zs.length = ds.length) := by rw [HZ.out]; exact List.length_map _
  have HZB : Hid (Bytes zs) := by
    rw [HZ.out]
    intro z hz
    obtain ⟨b, hb, rfl⟩ := List.mem_map.1 hz
    have h1 := Int.emod_nonneg b (show k + 1 ≠ 0 by omega)
    have h2 := Int.emod_lt_of_pos b (show 0 < k + 1 by omega)
    have h3 := HBY.out b hb
    omega
  have HP : Hid (∀ w', Below w.heap.size w w' → LawPost w (.returned (.bool true)) w') := fun w' h => ⟨rfl, h⟩
  clear hrd hby
  go_enter Yba.func3, Yba.ntmps3
  go_wp2
  obtain ⟨W1, hW1⟩ : ∃ W1, W1 = w.alloc (.cells (Array.replicate ds.length (.int .u8 0)) 5) := ⟨_, rfl⟩
  rw [← hW1]
  have s1 : RowAt W1 w.heap.size 5 ds.length (fun _ => 0) := by
    have h := RowAt.new w 5 ds.length (fun _ => 0)
    rw [← arr_zeros] at h
    rw [hW1]; exact h
  have s2 : Below w.heap.size w W1 := by rw [hW1]; exact (Below.refl _ _).alloc (Nat.le_refl _) _
  have s3 : W1.heap.size = w.heap.size + 1 := by rw [hW1]; simp
  generalize hB : w.heap.size = B at *
  have HB : Hid (w.heap.size = B) := hB
  have S1 : Hid (RowAt W1 B 5 ds.length (fun _ => 0)) := s1
  have S2 : Hid (Below B w W1) := s2
  have S3 : Hid (W1.heap.size = B + 1) := s3
  clear s1 s2 s3 hW1 hB
  go_loopw [23] (fun ii wr => ∃ (i : Nat) (g : Nat → Int), i ≤ ds.length ∧ ii = .int .i64 (i : Int) ∧ RowAt wr B 5 ds.length g ∧ (∀ j, j < i → g j = zs.getD j 0) ∧ Below B w wr ∧ wr.heap.size = B + 1) (fun ii _ => ds.length - (intOf ii).toNat)
  case atStart => exact ⟨0, _, Nat.zero_le _, rfl, S1.out, fun j hj => by omega, S2.out, S3.out⟩
  case round =>
    obtain ⟨i, g, hi, rfl, r1, r2, r3, r4⟩ := hrel
    clear S1 S2 S3 hmk
    by_cases hlt : i < ds.length
    · obtain ⟨x, hx, gx⟩ := HRD.out i hlt
      have hxB : (x.add i).block < B := by have h := World.block_lt_of_cell? _ _ gx; rw [HB.out] at h; exact h
      have cx : wr.cell? (x.add i) = some (.int .u8 (ds.getD i 0)) := (r3.cell hxB).trans gx
      have hix : ∀ wx, Sem.run Yba.prog (Instr.indexAt 22 (.slice a0 ds.length c0) (.int .i64 (i : Int))) wx = .ok (.pointer (some (x.add i))) wx := by
        intro wx
        rw [hx]
        have hk0 : (0 : Int) ≤ i := by omega
        have hk1 : (i : Int) < ds.length := by omega
        go_simp
      have hzi : zs.getD i 0 = ds.getD i 0 % (k + 1) := by rw [HZ.out]; simp [hlt]
      have hdb := HBY.out.get i hlt
      have hmod0 := Int.emod_nonneg (ds.getD i 0) (show k + 1 ≠ 0 by omega)
      have hmod1 := Int.emod_lt_of_pos (ds.getD i 0) (show 0 < k + 1 by omega)
      have c1 := r1.cell i hlt
      have f1 := r1.frozen i
      have HZI := (show Hid _ from hzi)
      have R1 : Hid (RowAt wr B 5 ds.length g) := r1
      have R2 : Hid (∀ j, j < i → g j = zs.getD j 0) := r2
      have R3 : Hid (Below B w wr) := r3
      have R4 : Hid (wr.heap.size = B + 1) := r4
      have hiI : (i : Int) < ds.length := by omega
      clear hx gx hxB hzi r1 r2 r3 r4
      generalize ds.getD i 0 = d at *
      have htm : Int.tmod d (k + 1) = d % (k + 1) := Int.tmod_eq_emod_of_nonneg hdb.1
      generalize hmm : d % (k + 1) = q at *
      have hq8 : q % 256 = q := by omega
      have hk1 : ¬ (k + 1 = 0) := by omega
      have HMM := (show Hid _ from hmm)
      clear hmm
      go_wp2
      go_roundw
      case rel =>
        refine ⟨i + 1, upd g i q, by omega, by go_num, R1.out.set i q, fun j hj => ?_, R3.out.setCell (Nat.le_refl _) _, by simpa [World.setCell] using R4.out⟩
        unfold upd
        by_cases e : j = i
        · rw [if_pos e, e, HZI.out]
        · rw [if_neg e]; exact R2.out j (by omega)
      case measure => simp [intOf]; omega
    · obtain rfl : i = ds.length := by omega
      have HR : Hid (Rd wr (some ⟨B, 0, none⟩) zs) := by
        have h := r1; rw [← HZL.out] at h
        exact h.rd (fun j hj => r2 j (by have := HZL.out; omega))
      obtain ⟨w2, hw2⟩ : ∃ w2, w2 = wr := ⟨_, rfl⟩
      subst hw2
      obtain ⟨N, HN⟩ : ∃ N, Hid (N = zs.length) := ⟨_, rfl⟩
      have hNd : N = ds.length := HN.out.trans HZL.out
      have hmk := makeN ds.length (by omega)
      obtain ⟨cs, HC⟩ : ∃ cs, Hid (cs = zs.map (Value.int .u8)) := ⟨_, rfl⟩
      have hcl : Hid (cs.length = ds.length) := by rw [HC.out]; exact (List.length_map _).trans HZL.out
      have hone : ∀ v ∈ cs, v.oneCell' = true := by
        intro v hv
        rw [HC.out] at hv
        obtain ⟨a, _, rfl⟩ := List.mem_map.1 hv
        rfl
      have R3 : Hid (Below B w w2) := r3
      have R4 : Hid (w2.heap.size = B + 1) := r4
      have ez := HZL.out
      clear r1 r2 r3 r4 hlt hi
      go_wp2_with (first | (refine wpList_copy_splice rfl _ _ 22 22 rfl 5 Yba.underlying22 Yba.size5 (some ⟨w2.heap.size, 0, none⟩) (some ⟨B, 0, none⟩) ds.length ds.length ds.length ds.length rfl rfl w2.heap.size 0 (List.replicate ds.length (.int .u8 0)) 5 ?hg cs ?hn ?hpos ?hfit hone w2.heap.size w2 ?hb (Nat.le_refl _) ?rest))
      case hg => first | exact Array.getElem_push_eq | (simp; exact Array.getElem_push_eq)
      case hn => have := hcl.out; simp; omega
      case hpos =>
        intro h j v hv
        have hj : j < zs.length := by have := (List.getElem?_eq_some_iff.1 hv).1; have := hcl.out; omega
        obtain ⟨x', hx', hc⟩ := HR.out j hj
        obtain rfl := Option.some.inj hx'
        have hlt2 := World.block_lt_of_cell? _ _ hc
        rw [add_eq, Nat.zero_add] at hc hlt2
        refine (((Below.refl w2.heap.size w2).alloc (Nat.le_refl _) _).cell (p := ⟨B, j, none⟩) hlt2).trans (hc.trans ?_)
        rw [HC.out] at hv
        simp [hj] at hv ⊢
        exact hv
      case hfit => have := hcl.out; simp; omega
      case hb => exact (Below.refl _ _).alloc (Nat.le_refl _) _
      case rest =>
        intro w3 hg3 hb3
        have hk3 : RowAt w3 w2.heap.size 5 zs.length (rowOf zs) := by
          have h := hg3.out
          rw [HC.out, ← ez] at h
          have e := laid_head zs 0
          rw [Nat.add_zero] at e
          rw [e] at h
          exact h
        have hB2 : B < w2.heap.size := by have := R4.out; omega
        have hlt3 : w2.heap.size < w3.heap.size := hk3.lt
        have SR : Hid (Rd w3 (some ⟨B, 0, none⟩) zs) := HR.out.below hb3 (fun x hx => by cases hx; exact hB2)
        have KR : Hid (Rd w3 (some ⟨w2.heap.size, 0, none⟩) zs) := hk3.rd (fun j hj => rfl)
        have B3 : Hid (Below B w w3) := R3.out.trans (hb3.mono (by omega))
        generalize w2.heap.size = K at *
        clear hg3 hb3 hk3 R3 R4 HR hmk hone HC hcl
        have key := srt_u B ds.length zs w3 HZB.out (by omega) SR.out ez.symm (by omega)
        rw [ez] at key
        go_wp2_with fail
        refine key.mono ?_
        rintro e w4 ⟨G, gt, ord, rfl, rd4, b4, hg0, hg1⟩
        clear key
        have hs3 : B < w3.heap.size := by omega
        have S4 : Hid (Rd w4 (some ⟨B, 0, none⟩) zs) := SR.out.below b4 (fun x hx => by cases hx; exact hs3)
        have K4 : Hid (Rd w4 (some ⟨K, 0, none⟩) zs) := KR.out.below b4 (fun x hx => by cases hx; exact hlt3)
        have B4 : Hid (Below B w w4) := B3.out.trans (b4.mono (by omega))
        have hs4 := b4.size
        have key := model_u B ds.length zs G w4 HZB.out (by omega) S4.out ez.symm (by omega) ord
        rw [ez] at key
        have hsp := spec_len zs G HZB.out ord
        have hhd := hd_len (cn zs) 256
        obtain ⟨ss, HSS⟩ : ∃ ss, Hid (ss = spec zs G) := ⟨_, rfl⟩
        rw [← HSS.out] at rd4 hsp
        rw [← HSS.out]
        have hssl : ss.length ≤ 100000 := by omega
        clear hsp hhd
        have G4 : Hid (Rd w4 (some ⟨gt, 0, none⟩) ss) := rd4
        have ORD : Hid (Ordered (cn zs) G) := ord
        clear rd4 b4 ord
        go_wp2_with fail
        refine key.mono ?_
        rintro e w5 ⟨v5, rfl, o5, b5⟩
        clear key
        have S5 : Hid (Rd w5 (some ⟨B, 0, none⟩) zs) := S4.out.below b5 (fun x hx => by cases hx; show B < _; omega)
        have K5 : Hid (Rd w5 (some ⟨K, 0, none⟩) zs) := K4.out.below b5 (fun x hx => by cases hx; show K < _; omega)
        have G5 : Hid (Rd w5 (some ⟨gt, 0, none⟩) ss) := G4.out.below b5 (fun x hx => by cases hx; show gt < _; omega)
        have B5 : Hid (Below B w w5) := B4.out.trans (b5.mono (by omega))
        rw [← HSS.out] at o5
        obtain ⟨ao, m, c5, rfl⟩ := o5.slice
        obtain ⟨rfl, rd5, _⟩ := o5.rd
        have W5 : Hid (Rd w5 ao ss) := rd5
        clear o5 b5 rd5
        go_wp2_with fail
        refine (equal_u (some ⟨gt, 0, none⟩) ao ss.length ss.length c5 ss w5 rfl hssl G5.out W5.out).mono ?_
        rintro e w6 ⟨rfl, m6, rfl⟩
        go_wp2_with fail
        have hrs : Rd (w5.drewN m6) (some ⟨B, 0, none⟩) zs := S5.out.of_cells (fun x j v h => by rw [World.cell?_drewN]; exact h)
        have hrk : Rd (w5.drewN m6) (some ⟨K, 0, none⟩) zs := K5.out.of_cells (fun x j v h => by rw [World.cell?_drewN]; exact h)
        refine (equal_u (some ⟨B, 0, none⟩) (some ⟨K, 0, none⟩) ds.length ds.length ds.length zs _ ez.symm (by omega) hrs hrk).mono ?_
        rintro e w7 ⟨rfl, m7, rfl⟩
        have HF : Hid (LawPost w (.returned (.bool true)) ((w5.drewN m6).drewN m7)) := HP.out _ (below_drewN (below_drewN B5.out _) _)
        clear hrs hrk
        generalize (w5.drewN m6).drewN m7 = w8 at *
        go_wp2
        go_ret
        exact HF.out
end Go.Proofs.Ybulkcmdi
