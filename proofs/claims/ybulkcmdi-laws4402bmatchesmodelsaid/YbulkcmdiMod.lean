import Derived.Test.YbulkcmdiSrt
import Derived.Test.YbulkcmdiModP
namespace Go.Proofs.Ybulkcmdi
open Go.RowKit
set_option linter.unusedVariables false
set_option linter.unusedSimpArgs false

def ModPost (zs G : List Int) (w : World) (e : Ending) (w' : World) : Prop := ∃ v, e = .returned v ∧ Own w' w.heap.size v (spec zs G) ∧ Below w.heap.size w w'

set_option maxHeartbeats 12800000 in
set_option maxRecDepth 100000 in
theorem model_u (S cs : Nat) (zs G : List Int) (w : World) (hby : Bytes zs) (hl : zs.length ≤ 9000) (hrd : Rd w (some ⟨S, 0, none⟩) zs) (hcs : cs = zs.length) (hS : S < w.heap.size) (hord : Ordered (cn zs) G) :
    Calls Yba.prog 7 #[.slice (some ⟨S, 0, none⟩) zs.length cs] w fun e w' => ModPost zs G w e w' := by
  have HBY : Hid (Bytes zs) := hby
  have HRD : Hid (Rd w (some ⟨S, 0, none⟩) zs) := hrd
  have HCS : Hid (cs = zs.length) := hcs
  have ORD : Hid (Ordered (cn zs) G) := hord
  have hz46 := zero46
  have hz47 := zero47
  have hz54 := zero54
  clear hby hrd hcs hord
  go_enter Yba.func7, Yba.ntmps7
  go_wp2
  obtain ⟨W1, hW1⟩ : ∃ W1, W1 = ((w.alloc (.cells (arrV 256 (fI fun _ => 0)) 46)).alloc (.cells (arrV 256 (fB fun _ => false)) 54)).alloc (.cells (arrN 256 fun _ => 0) 47) := ⟨_, rfl⟩
  rw [← hW1]
  have HP : Hid (∀ v w', Own w' w.heap.size v (spec zs G) → Below w.heap.size w w' → ModPost zs G w (.returned v) w') := fun v w' h1 h2 => ⟨v, rfl, h1, h2⟩
  generalize hB : w.heap.size = B at *
  have HB : Hid (w.heap.size = B) := hB
  have s1 : VRow W1 B 46 256 (fI (cnI [])) := by
    have h := ((VRow.new w 46 256 (fI fun _ => 0)).alloc (.cells (arrV 256 (fB fun _ => false)) 54)).alloc (.cells (arrN 256 fun _ => 0) 47)
    rw [hB] at h
    rw [hW1]; exact h
  have s0 : VRow W1 (B + 1) 54 256 (fB (sn [])) := by
    have h := (VRow.new (w.alloc (.cells (arrV 256 (fI fun _ => 0)) 46)) 54 256 (fB fun _ => false)).alloc (.cells (arrN 256 fun _ => 0) 47)
    have hs : (w.alloc (.cells (arrV 256 (fI fun _ => 0)) 46)).heap.size = B + 1 := by simp [hB]
    rw [hs] at h
    have e : sn [] = fun _ => false := by funext v; simp [sn]
    rw [hW1, e]; exact h
  have s2 : RowAt W1 (B + 2) 47 256 (rowOf (fo [])) := by
    have h := RowAt.new ((w.alloc (.cells (arrV 256 (fI fun _ => 0)) 46)).alloc (.cells (arrV 256 (fB fun _ => false)) 54)) 47 256 (fun _ => 0)
    have hs : ((w.alloc (.cells (arrV 256 (fI fun _ => 0)) 46)).alloc (.cells (arrV 256 (fB fun _ => false)) 54)).heap.size = B + 2 := by simp [hB]
    rw [hs] at h
    rw [hW1]; exact h
  have s3 : Below B w W1 := by
    rw [hW1, ← hB]; exact (((Below.refl _ _).alloc (Nat.le_refl _) _).alloc (by simp <;> omega) _).alloc (by simp; omega) _
  have s4 : W1.heap.size = B + 3 := by rw [hW1]; simp [hB]
  have S1 : Hid (VRow W1 B 46 256 (fI (cnI []))) := s1
  have S0 : Hid (VRow W1 (B + 1) 54 256 (fB (sn []))) := s0
  have S2 : Hid (RowAt W1 (B + 2) 47 256 (rowOf (fo []))) := s2
  have S3 := (show Hid _ from s3)
  have S4 := (show Hid _ from s4)
  clear s0 s1 s2 s3 s4 hW1 hz46 hz47 hB
  go_loopw [6, 26] (fun mm ii wr => ∃ k : Nat, k ≤ zs.length ∧ ii = .int .i64 (k : Int) ∧ mm = .int .i64 ((fo (zs.take k)).length : Int) ∧ VRow wr B 46 256 (fI (cnI (zs.take k))) ∧ VRow wr (B + 1) 54 256 (fB (sn (zs.take k))) ∧ RowAt wr (B + 2) 47 256 (rowOf (fo (zs.take k))) ∧ Below B w wr ∧ wr.heap.size = B + 3) (fun _ ii _ => zs.length - (intOf ii).toNat)
  case atStart => exact ⟨0, Nat.zero_le _, rfl, rfl, S1.out, S0.out, S2.out, S3.out, S4.out⟩
  case round =>
    obtain ⟨k, hk, rfl, rfl, r1, r0, r2, r3, r4⟩ := hrel
    clear S0 S1 S2 S3 S4
    have R1 : Hid (VRow wr B 46 256 (fI (cnI (zs.take k)))) := r1
    have R0 : Hid (VRow wr (B + 1) 54 256 (fB (sn (zs.take k)))) := r0
    have R2 : Hid (RowAt wr (B + 2) 47 256 (rowOf (fo (zs.take k)))) := r2
    have R3 : Hid (Below B w wr) := r3
    have R4 : Hid (wr.heap.size = B + 3) := r4
    clear r0 r1 r2 r3 r4
    by_cases hlt : k < zs.length
    · obtain ⟨x, hx, gx⟩ := HRD.out k hlt
      obtain rfl := Option.some.inj hx
      have hzk := HBY.out.get k hlt
      have hcx : wr.cell? ((⟨S, 0, none⟩ : Addr).add k) = some (.int .u8 (zs.getD k 0)) := (R3.out.cell (by rw [add_block]; exact hS)).trans gx
      rw [add_eq, Nat.zero_add] at hcx
      have h1 := fo_take zs k hlt
      have h2 := cnI_take zs k hlt hzk.1
      have h3 := fo_room (zs.take k) (HBY.out.take k) (zs.getD k 0) hzk
      have h5 := cn_le (zs.take k) (zs.getD k 0).toNat
      have h6 : (zs.take k).length ≤ 9000 := by simp; omega
      have h7 := sn_new (zs.take k) (zs.getD k 0) hzk.1
      have h8 := sn_old (zs.take k) (zs.getD k 0)
      have h9 : zs.take (k + 1) = zs.take k ++ [zs.getD k 0] := take_next zs k hlt
      have kc := R1.out.cell (zs.getD k 0).toNat (by omega)
      have kf := R1.out.frozen (zs.getD k 0).toNat
      have sc : wr.cell? ⟨B + 1, (zs.getD k 0).toNat, none⟩ = some (.bool (decide (zs.getD k 0 ∈ zs.take k))) := by
        have h := R0.out.cell (zs.getD k 0).toNat (by omega)
        unfold fB sn at h
        rwa [show (((zs.getD k 0).toNat : Nat) : Int) = zs.getD k 0 by omega] at h
      have sf := R0.out.frozen (zs.getD k 0).toNat
      have hmem := fo_mem (zs.take k) (zs.getD k 0)
      generalize hC : zs.getD k 0 = c at *
      have hcI : cnI (zs.take k) c.toNat = (cn (zs.take k) c.toNat : Int) := rfl
      have kc' : wr.cell? ⟨B, c.toNat, none⟩ = some (.int .i64 (cn (zs.take k) c.toNat : Int)) := kc
      rw [hcI] at h2
      generalize hN : cn (zs.take k) c.toNat = N at *
      have H1 := (show Hid _ from h1)
      have H2 := (show Hid _ from h2)
      have H9 := (show Hid _ from h9)
      have hki : (k : Int) < zs.length := by omega
      have hNb : (N : Int) ≤ 9000 := by omega
      clear h1 h2 kc hcI hx gx hC hN h5 h6 h9
      by_cases hN0 : c ∈ zs.take k
      · have H8 := (show Hid _ from h8 hN0)
        have HIN := (show Hid _ from hmem.2 hN0)
        have sc' : wr.cell? ⟨B + 1, c.toNat, none⟩ = some (.bool true) := by rw [sc, decide_eq_true hN0]
        clear h3 h7 h8 hmem sc hN0
        go_wp2
        go_roundw
        case rel =>
          have hins : ins (fo (zs.take k)) c = fo (zs.take k) := by unfold ins; rw [if_pos HIN.out]
          refine ⟨k + 1, by omega, by go_num, ?_, ?_, ?_, ?_, ?_, ?_⟩
          · rw [H1.out, hins]
          · rw [H2.out]; exact R1.out.setI _ _
          · rw [H9.out, H8.out]; exact R0.out.far (by simp <;> omega) _
          · rw [H1.out, hins]; exact R2.out.far (by simp <;> omega) _
          · exact R3.out.setCell (Nat.le_refl _) _
          · simpa [World.setCell] using R4.out
        case measure => simp [intOf]; omega
      · have hni : c ∉ fo (zs.take k) := fun h => hN0 (hmem.1 h)
        have hroom := h3 hni
        have lc := R2.out.cell (fo (zs.take k)).length hroom
        have lf := R2.out.frozen (fo (zs.take k)).length
        have H7 := (show Hid _ from h7)
        have sc' : wr.cell? ⟨B + 1, c.toNat, none⟩ = some (.bool false) := by rw [sc, decide_eq_false hN0]
        clear h3 h7 h8 hmem sc hN0
        generalize hA : fo (zs.take k) = A at *
        generalize hM : A.length = M at *
        have HA := (show Hid _ from hA)
        have HM := (show Hid _ from hM)
        have HNI := (show Hid _ from hni)
        have hMI : (M : Int) < 256 := by omega
        clear hA hM hni
        go_wp2
        go_roundw
        case rel =>
          have hins : ins A c = A ++ [c] := by unfold ins; rw [if_neg HNI.out]
          refine ⟨k + 1, by omega, by go_num, ?_, ?_, ?_, ?_, ?_, ?_⟩
          · rw [H1.out, hins, List.length_append, HM.out]; go_num
          · rw [H2.out]; exact ((R1.out.far (by simp <;> omega) _).far (by simp <;> omega) _).setI _ _
          · rw [H9.out, H7.out]; exact ((R0.out.setB _ _).far (by simp <;> omega) _).far (by simp <;> omega) _
          · rw [H1.out, hins, ← rowOf_snoc, HM.out]
            have h := (R2.out.far (a := ⟨B + 1, c.toNat, none⟩) (by simp <;> omega) (.bool true)).set M c
            exact h.far (by simp <;> omega) _
          · exact ((R3.out.setCell (by show B ≤ B + 1; omega) _).setCell (by show B ≤ B + 2; omega) _).setCell (Nat.le_refl _) _
          · simpa [World.setCell] using R4.out
        case measure => simp [intOf]; omega
    · obtain rfl : k = zs.length := by omega
      have e0 : zs.take zs.length = zs ++ r256 0 := by rw [List.take_length]; simp [r256]
      have e1 : zs.take zs.length = zs := List.take_length
      have Q2 : Hid (RowAt wr (B + 2) 47 256 (rowOf (fo (zs ++ r256 0)))) := by rw [← e0]; exact R2
      have Q1 : Hid (VRow wr B 46 256 (fI (cnI zs))) := by have h := R1.out; rw [e1] at h; exact h
      have Q3 : Hid (VRow wr (B + 1) 54 256 (fB (sn zs))) := by have h := R0.out; rw [e1] at h; exact h
      have Q0 : Hid ((fo (zs ++ r256 0)).length = (fo zs).length) := by rw [← e0, e1]; exact rfl
      obtain ⟨w2, hw2⟩ : ∃ w2, w2 = wr := ⟨_, rfl⟩
      subst hw2
      clear R0 R1 R2 e0 e1
      go_wp2
      go_loopw [6, 9] (fun mm ii wr => ∃ v : Nat, v ≤ 256 ∧ ii = .int .i64 (v : Int) ∧ mm = .int .i64 ((fo (zs ++ r256 v)).length : Int) ∧ VRow wr B 46 256 (fI (cnI zs)) ∧ VRow wr (B + 1) 54 256 (fB (sn zs)) ∧ RowAt wr (B + 2) 47 256 (rowOf (fo (zs ++ r256 v))) ∧ Below B w wr ∧ wr.heap.size = B + 3) (fun _ ii _ => 256 - (intOf ii).toNat)
      case atStart => exact ⟨0, Nat.zero_le _, rfl, by rw [Q0.out, List.take_length], Q1.out, Q3.out, Q2.out, R3.out, R4.out⟩
      case round =>
        obtain ⟨v, hv, rfl, rfl, r1, r0, r2, r3, r4⟩ := hrel
        clear Q1 Q2 Q3 Q0 R3 R4
        have R1 : Hid (VRow wr B 46 256 (fI (cnI zs))) := r1
        have R0 : Hid (VRow wr (B + 1) 54 256 (fB (sn zs))) := r0
        have R2 : Hid (RowAt wr (B + 2) 47 256 (rowOf (fo (zs ++ r256 v)))) := r2
        have R3 : Hid (Below B w wr) := r3
        have R4 : Hid (wr.heap.size = B + 3) := r4
        clear r0 r1 r2 r3 r4
        by_cases hlt : v < 256
        · have hbz : Bytes (zs ++ r256 v) := fun z hz => by
            rcases List.mem_append.1 hz with hz | hz
            · exact HBY.out z hz
            · have := (r256_mem v z).1 hz; omega
          have h3 := fo_room (zs ++ r256 v) hbz (v : Int) ⟨by omega, by omega⟩
          have h1 : fo (zs ++ r256 (v + 1)) = ins (fo (zs ++ r256 v)) v := by rw [r256_succ, ← List.append_assoc, fo_snoc]
          have h4 : (v : Int) ∉ zs ↔ (v : Int) ∉ fo (zs ++ r256 v) := by
            rw [fo_mem, List.mem_append, r256_mem]
            constructor
            · intro h h'; rcases h' with h' | h'
              · exact h h'
              · omega
            · intro h h'; exact h (Or.inl h')
          have sc : wr.cell? ⟨B + 1, v, none⟩ = some (.bool (decide ((v : Int) ∈ zs))) := R0.out.cell v hlt
          have H1 := (show Hid _ from h1)
          have hvI : (v : Int) < 256 := by omega
          have hv8 : (v : Int) % 256 = v := by omega
          clear h1 hbz
          by_cases hN0 : (v : Int) ∈ zs
          · have HIN : Hid ((v : Int) ∈ fo (zs ++ r256 v)) := Classical.not_not.1 (fun h => (h4.2 h) hN0)
            have sc' : wr.cell? ⟨B + 1, v, none⟩ = some (.bool true) := by rw [sc, decide_eq_true hN0]
            clear h3 h4 sc hN0
            go_wp2
            go_roundw
            case rel =>
              have hins : ins (fo (zs ++ r256 v)) v = fo (zs ++ r256 v) := by unfold ins; rw [if_pos HIN.out]
              refine ⟨v + 1, by omega, by go_num, ?_, R1.out, R0.out, ?_, R3.out, R4.out⟩
              · rw [H1.out, hins]
              · rw [H1.out, hins]; exact R2.out
            case measure => simp [intOf]; omega
          · have hni : (v : Int) ∉ fo (zs ++ r256 v) := h4.1 hN0
            have hroom := h3 hni
            have lc := R2.out.cell (fo (zs ++ r256 v)).length hroom
            have lf := R2.out.frozen (fo (zs ++ r256 v)).length
            have sc' : wr.cell? ⟨B + 1, v, none⟩ = some (.bool false) := by rw [sc, decide_eq_false hN0]
            clear h3 h4 sc hN0
            generalize hA : fo (zs ++ r256 v) = A at *
            generalize hM : A.length = M at *
            have HA := (show Hid _ from hA)
            have HM := (show Hid _ from hM)
            have HNI := (show Hid _ from hni)
            have hMI : (M : Int) < 256 := by omega
            clear hA hM hni
            go_wp2
            go_roundw
            case rel =>
              have hins : ins A v = A ++ [(v : Int)] := by unfold ins; rw [if_neg HNI.out]
              refine ⟨v + 1, by omega, by go_num, ?_, ?_, ?_, ?_, ?_, ?_⟩
              · rw [H1.out, hins, List.length_append, HM.out]; go_num
              · exact R1.out.far (by simp <;> omega) _
              · exact R0.out.far (by simp <;> omega) _
              · rw [H1.out, hins, ← rowOf_snoc, HM.out]
                exact R2.out.set M v
              · exact R3.out.setCell (by show B ≤ B + 2; omega) _
              · simpa [World.setCell] using R4.out
            case measure => simp [intOf]; omega
        · have HV : Hid (v = 256) := by show v = 256; omega
          have hvI : ¬ ((v : Int) < 256) := by omega
          obtain ⟨w3, hw3⟩ : ∃ w3, w3 = wr := ⟨_, rfl⟩
          subst hw3
          have R2' : Hid (RowAt w3 (B + 2) 47 256 (fol zs)) := by have h := R2.out; rw [HV.out] at h; exact h
          have hmk := makeN zs.length (by omega)
          have hr4 : w3.heap.size = B + 3 := R4.out
          clear R2 R0 hlt hv
          go_wp2
          obtain ⟨W4, hW4⟩ : ∃ W4, W4 = w3.alloc (.cells (Array.replicate zs.length (.int .u8 0)) 5) := ⟨_, rfl⟩
          rw [← hW4]
          have hf4 : Fr (fun _ => False) w3 W4 := by rw [hW4]; exact Fr.alloc _ _ _
          have A1 : Hid (RowAt W4 (B + 2) 47 256 (mtfL (fol zs) (zs.take 0))) := R2'.out.kept hf4 (fun h => h)
          have A2 : Hid (RowAt W4 (B + 3) 5 zs.length (fun _ => 0)) := by
            have h := RowAt.new w3 5 zs.length (fun _ => 0)
            rw [hr4, ← arr_zeros] at h
            rw [hW4]; exact h
          have A3 : Hid (VRow W4 B 46 256 (fI (cnI zs))) := R1.out.kept hf4 (fun h => h)
          have A4 : Hid (Below B w W4) := R3.out.trans (hf4.below (by omega) (fun k hk => hk.elim))
          have A5 : Hid (W4.heap.size = B + 4) := by rw [hW4]; show _ = _; simp [hr4]
          obtain ⟨rs, RS⟩ : ∃ rs, Hid (rs = mtfR (fol zs) zs) := ⟨_, rfl⟩
          have RL : Hid (zs.length = rs.length) := by rw [RS.out]; exact (mtfR_len _ _).symm
          clear R1 R2' R3 R4 hr4 hmk hW4 hf4
          go_loopw [66] (fun ii wr => ∃ (k : Nat) (g : Nat → Int), k ≤ zs.length ∧ ii = .int .i64 (k : Int) ∧ RowAt wr (B + 2) 47 256 (mtfL (fol zs) (zs.take k)) ∧ RowAt wr (B + 3) 5 zs.length g ∧ (∀ j, j < k → g j = rs.getD j 0) ∧ VRow wr B 46 256 (fI (cnI zs)) ∧ Below B w wr ∧ B + 4 ≤ wr.heap.size) (fun ii _ => zs.length - (intOf ii).toNat)
          case atStart => exact ⟨0, _, Nat.zero_le _, rfl, A1.out, A2.out, fun j hj => by omega, A3.out, A4.out, by have := A5.out; omega⟩
          case round =>
            obtain ⟨k, g, hk, rfl, r1, r2, r3, r4, r5, r6⟩ := hrel
            obtain ⟨w4, hw4⟩ : ∃ w4, w4 = wr := ⟨_, rfl⟩
            subst hw4
            clear A1 A2 A3 A4 A5
            by_cases hlt : k < zs.length
            · obtain ⟨M1, M2⟩ := mtf_step (fol zs) zs k hlt
              rw [← RS.out] at M2
              obtain ⟨x, hx, gx⟩ := HRD.out k hlt
              obtain rfl := Option.some.inj hx
              rw [add_eq, Nat.zero_add] at gx
              have hzk := HBY.out.get k hlt
              have hcx : w4.cell? ⟨S, k, none⟩ = some (.int .u8 (zs.getD k 0)) := (r5.cell (p := ⟨S, k, none⟩) hS).trans gx
              have hAll : AllIn (mtfL (fol zs) (zs.take k)) := AllIn.mtfL _ (fol_all zs HBY.out) (HBY.out.take k)
              obtain ⟨P1, P2, P3⟩ := posOf_spec (mtfL (fol zs) (zs.take k)) (zs.getD k 0) (hAll _ hzk.1 hzk.2)
              have HM1 : Hid (mtfL (fol zs) (zs.take (k + 1)) = mtf1 (mtfL (fol zs) (zs.take k)) (zs.getD k 0)) := M1
              have HM2 : Hid (rs.getD k 0 = (posOf (mtfL (fol zs) (zs.take k)) (zs.getD k 0) : Int)) := M2
              clear M1 M2 hx gx
              generalize hM : mtfL (fol zs) (zs.take k) = M at *
              generalize hC : zs.getD k 0 = c at *
              clear hM hC hAll
              have R1 : Hid (RowAt w4 (B + 2) 47 256 M) := r1
              have R2 : Hid (RowAt w4 (B + 3) 5 zs.length g) := r2
              have R3 := (show Hid _ from r3)
              have R4 : Hid (VRow w4 B 46 256 (fI (cnI zs))) := r4
              have R5 : Hid (Below B w w4) := r5
              have R6 : Hid (B + 4 ≤ w4.heap.size) := r6
              have HP1 : Hid (posOf M c < 256) := P1
              have HP2 : Hid (M (posOf M c) = c) := P2
              have HP3 := (show Hid _ from P3)
              have hki : (k : Int) < zs.length := by omega
              clear r1 r2 r3 r4 r5 r6 P1 P2 P3
              go_wp2
              go_loopw [13] (fun pp wr => ∃ p : Nat, p ≤ posOf M c ∧ pp = .int .i64 (p : Int) ∧ w4 = wr) (fun pp _ => 256 - (intOf pp).toNat)
              case atStart => exact ⟨0, Nat.zero_le _, rfl, rfl⟩
              case round =>
                obtain ⟨p, hp, rfl, rfl⟩ := hrel
                have hp1 := HP1.out
                have hpI : (p : Int) < 256 := by omega
                have cp := R1.out.cell p (by omega)
                by_cases hMp : M p = c
                · have hpp : posOf M c = p := posOf_eq M c p (by omega) hMp (fun j hj => HP3.out j (by omega))
                  have HPP : Hid (posOf M c = p) := hpp
                  have HMP : Hid (M p = c) := hMp
                  rw [hMp] at cp
                  clear hpp hp1 hp hMp
                  go_wp2
                  go_loopw [14] (fun jj wr => ∃ j : Nat, j ≤ p ∧ jj = .int .i64 (j : Int) ∧ RowAt wr (B + 2) 47 256 (shd M p j) ∧ Fr (fun k => k = B + 2) w4 wr) (fun jj _ => (intOf jj).toNat)
                  case atStart => exact ⟨p, Nat.le_refl _, rfl, by rw [shd_top]; exact R1.out, Fr.refl _ _⟩
                  case round =>
                    obtain ⟨j, hj, rfl, i1, i2⟩ := hrel
                    have I1 : Hid (RowAt wr (B + 2) 47 256 (shd M p j)) := i1
                    have I2 : Hid (Fr (fun k => k = B + 2) w4 wr) := i2
                    by_cases hj0 : 0 < j
                    · obtain ⟨i, rfl⟩ : ∃ i, j = i + 1 := ⟨j - 1, by omega⟩
                      have c1 := i1.cell i (by omega)
                      have e1 : shd M p (i + 1) i = M i := by unfold shd; rw [if_neg (by omega)]
                      rw [e1] at c1
                      have c2 := i1.cell (i + 1) (by omega)
                      have f2 := i1.frozen (i + 1)
                      have hsn : Hid (upd (shd M p (i + 1)) (i + 1) (M i) = shd M p i) := shd_next M p (i + 1) (by omega) hj
                      generalize hii : (((i + 1 : Nat)) : Int) = ii at *
                      have hi1 : ii - 1 = (i : Int) := by omega
                      have hi2 : ii < 256 := by omega
                      have hi3 : 0 < ii := by omega
                      have hi4 : ii.toNat = i + 1 := by omega
                      have hi5 : (i : Int) < 256 := by omega
                      have HII := (show Hid _ from hii)
                      clear i1 i2 e1 hii
                      go_wp2
                      go_roundw
                      case rel =>
                        refine ⟨i, by omega, rfl, ?_, I2.out.trans (Fr.setCell (R := fun k => k = B + 2) _ rfl _)⟩
                        rw [← hsn.out]; exact I1.out.set (i + 1) (M i)
                      case measure => have := HII.out; simp [intOf]; omega
                    · obtain rfl : j = 0 := by omega
                      have c0 := i1.cell 0 (by omega)
                      have f0 := i1.frozen 0
                      have cR := (R2.out.kept i2 (by omega)).cell k hlt
                      have fR := (R2.out.kept i2 (by omega)).frozen k
                      have J1 : Hid (RowAt (wr.setCell ⟨B + 2, 0, none⟩ (.int .u8 c)) (B + 2) 47 256 (mtf1 M c)) := by
                        have h := i1.set 0 (M p)
                        rw [shd_done] at h
                        show RowAt _ _ _ _ _
                        unfold mtf1; rw [HPP.out, ← HMP.out]; exact h
                      have J2 : Hid (RowAt wr (B + 3) 5 zs.length g) := R2.out.kept i2 (by omega)
                      have J4 : Hid (VRow wr B 46 256 (fI (cnI zs))) := R4.out.kept i2 (by omega)
                      have J5 : Hid (Below B w wr) := R5.out.trans (i2.below (by have := R6.out; omega) (fun k hk => by omega))
                      have J6 : Hid (B + 4 ≤ wr.heap.size) := Nat.le_trans R6.out i2.size
                      have hp8 : (p : Int) % 256 = p := by omega
                      clear i1 i2 I1 I2 hj0 hj cp
                      go_wp2
                      go_roundw
                      case rel =>
                        refine ⟨k + 1, upd g k p, by omega, by go_num, ?_, ?_, fun j hj => ?_, ?_, ?_, ?_⟩
                        · rw [HM1.out]; exact J1.out.far (by simp <;> omega) _
                        · exact (J2.out.far (by simp <;> omega) _).set k p
                        · unfold upd
                          by_cases e : j = k
                          · rw [if_pos e, e, HM2.out, HPP.out]
                          · rw [if_neg e]; exact R3.out j (by omega)
                        · exact (J4.out.far (by simp <;> omega) _).far (by simp <;> omega) _
                        · exact (J5.out.setCell (by show B ≤ B + 2; omega) _).setCell (by show B ≤ B + 3; omega) _
                        · simpa [World.setCell] using J6.out
                      case measure => simp [intOf]; omega
                · have hMp' : ¬ (c = M p) := fun h => hMp h.symm
                  have hpl : p < posOf M c := by
                    rcases Nat.lt_or_ge p (posOf M c) with h | h
                    · exact h
                    · exact absurd (by rw [Nat.le_antisymm hp h]; exact HP2.out) hMp
                  have HPL : Hid (p < posOf M c) := hpl
                  clear hpl hp1 hp
                  go_wp2
                  go_roundw
                  case rel => exact ⟨p + 1, HPL.out, by go_num, trivial⟩
                  case measure => simp [intOf]; omega
            · obtain rfl : k = zs.length := by omega
              have R2 : Hid (RowAt w4 (B + 3) 5 zs.length g) := r2
              have R3 : Hid (∀ j, j < zs.length → g j = rs.getD j 0) := r3
              have R4 : Hid (VRow w4 B 46 256 (fI (cnI zs))) := r4
              have R5 : Hid (Below B w w4) := r5
              have R6 : Hid (B + 4 ≤ w4.heap.size) := r6
              clear r1 r2 r3 r4 r5 r6
              go_wp2
              go_loopw [15, 16] (fun hv ii wr => ∃ v : Nat, v ≤ 256 ∧ ii = .int .i64 (v : Int) ∧ Own wr (B + 4) hv (hd (cn zs) v) ∧ Below (B + 4) w4 wr) (fun _ ii _ => 256 - (intOf ii).toNat)
              case atStart => exact ⟨0, Nat.zero_le _, rfl, World.ownsRow_nil _ _ _ _, Below.refl _ _⟩
              case round =>
                obtain ⟨v, hv, rfl, o, hb⟩ := hrel
                obtain ⟨w5, hw5⟩ : ∃ w5, w5 = wr := ⟨_, rfl⟩
                subst hw5
                obtain ⟨ho, hho⟩ : ∃ ho, ho = u15 := ⟨_, rfl⟩
                subst hho
                by_cases hlt : v < 256
                · have hvI : (v : Int) < 256 := by omega
                  have hh := hd_len (cn zs) v
                  have h5 := cn_le zs v
                  have kc : w5.cell? ⟨B, v, none⟩ = some (.int .i64 (cn zs v : Int)) := (R4.out.below hb (by omega)).cell v hlt
                  have HH : Hid (hd (cn zs) (v + 1) = hd (cn zs) v ++ uv 9 (cn zs v)) := rfl
                  generalize hN : cn zs v = N at *
                  generalize hHd : hd (cn zs) v = hs at *
                  have HO : Hid (Own w5 (B + 4) ho hs) := o
                  have HBL : Hid (Below (B + 4) w4 w5) := hb
                  have hN1 : (N : Int) ≤ 9000 := by omega
                  have hN2 : (N : Int) % 18446744073709551616 = N := by omega
                  clear o hb h5 hN hHd
                  go_wp2
                  go_loopw [15, 17] (fun b v wr => ∃ (ys : List Int) (f y : Nat), v = .int .u64 (y : Int) ∧ Hid (y < 2 * 128 ^ f) ∧ Hid (y < 18446744073709551616) ∧ Hid (ys ++ uv f y = uv 9 N) ∧ ys.length + f = 9 ∧ Own wr (B + 4) b (hs ++ ys) ∧ Below (B + 4) w4 wr) (fun _ v _ => (intOf v).toNat)
                  case atStart => exact ⟨[], 9, N, rfl, by show _ < _; omega, by show _ < _; omega, rfl, rfl, by simpa using HO.out, HBL.out⟩
                  case round =>
                    obtain ⟨ys, f, y, rfl, hy, HY64, hys, hlen, hown', hbel⟩ := hrel
                    have hsz := hbel.size
                    have hr6 := R6.out
                    generalize hYy : (y : Int) = Y
                    have HYy : Hid ((y : Int) = Y) := hYy
                    have hY0 : 0 ≤ Y := by omega
                    have hyI : Y < 18446744073709551616 := by have := HY64.out; omega
                    by_cases hlt2 : Y < 128
                    · have hlt' : y < 128 := by omega
                      have HL : Hid (y < 128) := hlt'
                      have e8 : Y % 256 = Y := by omega
                      have hge : ¬ (128 ≤ Y) := by omega
                      clear hlt' hYy
                      have HB' : Hid (Below (B + 4) w4 (wr.alloc (.cells #[.int .u8 Y] 5))) := hbel.alloc (by omega) _
                      clear hbel
                      go_wp2_with (first | (at_builtin; refine wpList_append_bytes rfl _ _ rfl (B + 4) _ (hs ++ ys) rfl (hown'.alloc _) (some ⟨wr.heap.size, 0, none⟩) 1 1 [Y] rfl rfl ?c1 (fun h => by cases h) (by simp; omega) (by simp; omega) w4 HB'.out ?_))
                      case c1 =>
                        intro j hj
                        have : j = 0 := by simpa using hj
                        subst this
                        exact ⟨_, rfl, by simp [Addr.add]⟩
                      · intro v' w1 hown1 hb1 _
                        have HO1 : Hid (Own w1 (B + 4) v' (hd (cn zs) (v + 1))) := by
                          rw [HH.out]
                          have := hys.out
                          rw [uv_small _ _ HL.out, HYy.out] at this
                          rw [← this]; first | exact hown1 | (rw [← List.append_assoc]; exact hown1)
                        have HB1 : Hid (Below (B + 4) w4 w1) := hb1
                        clear hown1 hb1
                        go_wp2
                        go_roundw
                        case rel => exact ⟨v + 1, by omega, by go_num, HO1.out, HB1.out⟩
                        case measure => simp [intOf]; omega
                    · cases f with
                      | zero => exfalso; have := hy.out; simp at this; omega
                      | succ f =>
                        have HL : Hid (128 ≤ y) := by show 128 ≤ y; omega
                        have hor : bits .or .u8 (Y % 256) 128 = Y % 128 + 128 := by rw [or128 _ (by omega) (by omega)]; omega
                        have HB' : Hid (Below (B + 4) w4 (wr.alloc (.cells #[.int .u8 (Y % 128 + 128)] 5))) := hbel.alloc (by omega) _
                        have hge : 128 ≤ Y := by omega
                        clear hbel hYy
                        go_wp2_with (first | (at_builtin; refine wpList_append_bytes rfl _ _ rfl (B + 4) _ (hs ++ ys) rfl (hown'.alloc _) (some ⟨wr.heap.size, 0, none⟩) 1 1 [Y % 128 + 128] rfl rfl ?c1 (fun h => by cases h) (by simp; omega) (by simp; omega) w4 HB'.out ?_))
                        case c1 =>
                          intro j hj
                          have : j = 0 := by simpa using hj
                          subst this
                          exact ⟨_, rfl, by simp [Addr.add]⟩
                        · intro v' w1 hown1 hb1 _
                          go_wp2
                          go_roundw
                          case rel =>
                            have HYY := HYy.out
                            have HLL := HL.out
                            have H64 := HY64.out
                            refine ⟨ys ++ [Y % 128 + 128], f, y / 128, by congr 1; omega, ?_, by show _ < _; omega, ?_, by simp; omega, ?_, hb1⟩
                            · have := hy.out; rw [Nat.pow_succ] at this; show _ < _; omega
                            · have := hys.out; rw [uv_step _ _ HLL, HYY] at this; show _ = _; rw [← this]; simp
                            · first | exact hown1 | (rw [← List.append_assoc]; exact hown1)
                          case measure => have := HL.out; have := HYy.out; simp [intOf]; omega
                · have HV2 : Hid (v = 256) := by show v = 256; omega
                  have hvI2 : ¬ ((v : Int) < 256) := by omega
                  obtain ⟨hs, HS⟩ : ∃ hs, Hid (hs = hd (cn zs) 256) := ⟨_, rfl⟩
                  have hsl : hs.length ≤ 2560 := by rw [HS.out]; exact hd_len (cn zs) 256
                  have HO : Hid (Own w5 (B + 4) ho (hs ++ grp (G.take 0) zs rs)) := by
                    have h := o; rw [HV2.out, ← HS.out] at h
                    have e : hs ++ grp (G.take 0) zs rs = hs := List.append_nil hs
                    rw [e]; exact h
                  have HBL : Hid (Below (B + 4) w4 w5) := hb
                  have hw5 : B + 4 ≤ w5.heap.size := Nat.le_trans R6.out hb.size
                  clear o hb hlt hv
                  go_wp2
                  obtain ⟨W6, hW6⟩ : ∃ W6, W6 = w5.alloc (.cells (arrV 256 (fB fun _ => false)) 54) := ⟨_, rfl⟩
                  rw [← hW6]
                  have C1 : Hid (VRow W6 w5.heap.size 54 256 (fB (sn (G.take 0)))) := by
                    have e : sn (G.take 0) = fun _ => false := by funext v; simp [sn]
                    rw [e, hW6]; exact VRow.new w5 54 256 _
                  have C2 : Hid (Own W6 (B + 4) ho (hs ++ grp (G.take 0) zs rs)) := by rw [hW6]; exact HO.out.alloc _
                  have C3 : Hid (Below (B + 4) w4 W6) := by rw [hW6]; exact HBL.out.alloc hw5 _
                  generalize hDn : w5.heap.size = Dn at *
                  have hGl := ORD.out.len
                  have hst : Hid (∀ r, r ≤ G.length → (hs ++ grp (G.take r) zs rs).length ≤ 11560) := fun r hr => by
                    have h1 := stt_mono hs.length G zs rs RL.out r G.length hr (Nat.le_refl _)
                    rw [stt_total hs.length G zs rs RL.out ORD.out.nodup (ORD.out.has HBY.out)] at h1
                    unfold stt at h1
                    rw [List.length_append]; omega
                  have HSP : Hid (spec zs G = hs ++ grp G zs rs) := by rw [HS.out, RS.out]; exact rfl
                  clear HO HBL hW6 hDn hz54
                  go_loopw [15, 19] (fun ov ii wr => ∃ r : Nat, r ≤ G.length ∧ ii = .int .i64 (r : Int) ∧ Own wr (B + 4) ov (hs ++ grp (G.take r) zs rs) ∧ VRow wr Dn 54 256 (fB (sn (G.take r))) ∧ Below (B + 4) w4 wr) (fun _ ii _ => 256 - (intOf ii).toNat)
                  case atStart => exact ⟨0, Nat.zero_le _, rfl, C2.out, C1.out, C3.out⟩
                  case round =>
                    obtain ⟨r, hr, rfl, o, r1, r2⟩ := hrel
                    obtain ⟨w6, hw6⟩ : ∃ w6, w6 = wr := ⟨_, rfl⟩
                    subst hw6
                    obtain ⟨hov, hho⟩ : ∃ hov, hov = u15 := ⟨_, rfl⟩
                    subst hho
                    have O1 : Hid (Own w6 (B + 4) hov (hs ++ grp (G.take r) zs rs)) := o
                    have V1 : Hid (VRow w6 Dn 54 256 (fB (sn (G.take r)))) := r1
                    have L1 : Hid (Below (B + 4) w4 w6) := r2
                    have K1 : Hid (VRow w6 B 46 256 (fI (cnI zs))) := R4.out.below r2 (by omega)
                    clear o r1 r2 C1 C2 C3
                    have HFIN : Hid (r = G.length → ∀ q, ModPost zs G w (.returned hov) (w6.drewN q)) := fun e q => by
                      refine HP.out hov _ ?_ ?_
                      · have h := O1.out
                        rw [e, List.take_length, ← HSP.out] at h
                        have h2 := h.drewN q
                        exact ⟨h2.1, by
                          rcases h2.2 with h3 | ⟨g', c', cur, e1, hg, rest⟩
                          · exact .inl h3
                          · exact .inr ⟨g', c', cur, e1, by omega, rest⟩⟩
                      · exact below_drewN (R5.out.trans (L1.out.mono (by omega))) q
                    by_cases hlt : r < 256
                    · have hrI : (r : Int) < 256 := by omega
                      go_wp2
                      go_loopw [20, 21] (fun bb ii wr => ∃ (v : Nat) (b : Int) (q : Nat), v ≤ 256 ∧ ii = .int .i64 (v : Int) ∧ bb = .int .i64 b ∧ Best (cn zs) G r v b ∧ w6.drewN q = wr) (fun _ ii _ => 256 - (intOf ii).toNat)
                      case atStart => exact ⟨0, -1, 0, Nat.zero_le _, rfl, rfl, best_start _ _ _, rfl⟩
                      case round =>
                        obtain ⟨v, b, q, hv, rfl, rfl, hbest, rfl⟩ := hrel
                        have BEST : Hid (Best (cn zs) G r v b) := hbest
                        by_cases hlt2 : v < 256
                        · have hvI3 : (v : Int) < 256 := by omega
                          have kc : (w6.drewN q).cell? ⟨B, v, none⟩ = some (.int .i64 (cn zs v : Int)) := (K1.out.drewN q).cell v hlt2
                          have dc : (w6.drewN q).cell? ⟨Dn, v, none⟩ = some (.bool (decide ((v : Int) ∈ G.take r))) := (V1.out.drewN q).cell v hlt2
                          have hbn := best_not hbest
                          have hnb := cn_le zs v
                          by_cases hleft : Left (cn zs) G r v
                          · have hc0 := hleft.1
                            have d1 : decide ((0 : Int) < (cn zs v : Int)) = true := by rw [decide_eq_true_eq]; omega
                            have dc' : (w6.drewN q).cell? ⟨Dn, v, none⟩ = some (.bool false) := by rw [dc, decide_eq_false hleft.2]
                            rcases (show b = -1 ∨ ∃ n : Nat, b = n ∧ n < v from hbest.elim (fun h => .inl h.1) (fun h => .inr (by obtain ⟨n, e, h1, _⟩ := h; exact ⟨n, e, h1⟩))) with rfl | ⟨n, rfl, hnv⟩
                            · have HBN : Hid (Best (cn zs) G r (v + 1) v) := best_first hbest hleft
                              clear hbn hleft dc hbest
                              generalize cn zs v = N at *
                              simp only [World.cell?_drewN] at kc dc'
                              go_wp2
                              go_quiet (fail)
                              go_wp2
                              go_roundw
                              case rel => exact ⟨v + 1, v, _, by omega, by go_num, rfl, HBN.out, rfl⟩
                              case measure => simp [intOf]; omega
                            · have kn : (w6.drewN q).cell? ⟨B, n, none⟩ = some (.int .i64 (cn zs n : Int)) := (K1.out.drewN q).cell n (by omega)
                              have d2 : decide ((n : Int) < 0) = false := by rw [decide_eq_false_iff_not]; omega
                              have hnI : (n : Int) < 256 := by omega
                              by_cases hcmp : cn zs n < cn zs v
                              · have HBN : Hid (Best (cn zs) G r (v + 1) v) := best_more hbest hleft hcmp
                                have d3 : decide ((cn zs n : Int) < (cn zs v : Int)) = true := by rw [decide_eq_true_eq]; omega
                                clear hbn hleft dc hbest BEST
                                generalize cn zs v = N at *
                                generalize cn zs n = N2 at *
                                simp only [World.cell?_drewN] at kc dc' kn
                                go_wp2
                                go_quiet (fail)
                                go_wp2
                                go_roundw
                                case rel => exact ⟨v + 1, v, _, by omega, by go_num, rfl, HBN.out, rfl⟩
                                case measure => simp [intOf]; omega
                              · have HBN : Hid (Best (cn zs) G r (v + 1) n) := best_same hbest hleft hcmp
                                have d3 : decide ((cn zs n : Int) < (cn zs v : Int)) = false := by rw [decide_eq_false_iff_not]; omega
                                clear hbn hleft dc hbest BEST
                                generalize cn zs v = N at *
                                generalize cn zs n = N2 at *
                                simp only [World.cell?_drewN] at kc dc' kn
                                go_wp2
                                go_quiet (fail)
                                go_wp2
                                go_roundw
                                case rel => exact ⟨v + 1, n, _, by omega, by go_num, rfl, HBN.out, rfl⟩
                                case measure => simp [intOf]; omega
                          · have HBN : Hid (Best (cn zs) G r (v + 1) b) := hbn hleft
                            by_cases hc0 : 0 < cn zs v
                            · have hin : (v : Int) ∈ G.take r := Classical.not_not.1 (fun h => hleft ⟨hc0, h⟩)
                              have d1 : decide ((0 : Int) < (cn zs v : Int)) = true := by rw [decide_eq_true_eq]; omega
                              have dc' : (w6.drewN q).cell? ⟨Dn, v, none⟩ = some (.bool true) := by rw [dc, decide_eq_true hin]
                              clear hbn hleft hin dc hbest
                              generalize cn zs v = N at *
                              simp only [World.cell?_drewN] at kc dc'
                              go_wp2
                              go_quiet (fail)
                              go_wp2
                              go_roundw
                              case rel => exact ⟨v + 1, b, _, by omega, by go_num, rfl, HBN.out, rfl⟩
                              case measure => simp [intOf]; omega
                            · have d1 : decide ((0 : Int) < (cn zs v : Int)) = false := by rw [decide_eq_false_iff_not]; omega
                              clear hbn hleft dc hbest
                              generalize cn zs v = N at *
                              simp only [World.cell?_drewN] at kc
                              go_wp2
                              go_quiet (fail)
                              go_wp2
                              go_roundw
                              case rel => exact ⟨v + 1, b, _, by omega, by go_num, rfl, HBN.out, rfl⟩
                              case measure => simp [intOf]; omega
                        · have HV3 : Hid (v = 256) := by show v = 256; omega
                          have hvI4 : ¬ ((v : Int) < 256) := by omega
                          have hbest' : Best (cn zs) G r 256 b := by rw [← HV3.out]; exact hbest
                          have V1q : Hid (VRow (w6.drewN q) Dn 54 256 (fB (sn (G.take r)))) := V1.out.drewN q
                          have O1q : Hid (Own (w6.drewN q) (B + 4) hov (hs ++ grp (G.take r) zs rs)) := O1.out.drewN q
                          have L1q : Hid (Below (B + 4) w4 (w6.drewN q)) := below_drewN L1.out q
                          have FINq : Hid (r = G.length → ModPost zs G w (.returned hov) (w6.drewN q)) := fun e => HFIN.out e q
                          clear hlt2 hv hbest BEST HFIN V1 O1 L1 K1
                          generalize w6.drewN q = w7 at *
                          by_cases hrG : r < G.length
                          · have hbe : b = G.getD r 0 := best_next ORD.out hbest' hrG
                            have hbb := ORD.out.byte r hrG
                            have hgn : Hid (grp (G.take (r + 1)) zs rs = grp (G.take r) zs rs ++ sel b zs rs) := by rw [hbe]; exact grp_next G zs rs r hrG
                            have hsn : Hid (sn (G.take (r + 1)) = updB (sn (G.take r)) b.toNat true) := by rw [hbe, take_next G r hrG]; exact sn_new _ _ hbb.1
                            rw [← hbe] at hbb
                            have hll := hst.out r (by omega)
                            generalize hAA : hs ++ grp (G.take r) zs rs = A at *
                            have HAA := (show Hid _ from hAA)
                            have dc := V1q.out.cell b.toNat (by omega)
                            have df := V1q.out.frozen b.toNat
                            have V2 : Hid (VRow (w7.setCell ⟨Dn, b.toNat, none⟩ (.bool true)) Dn 54 256 (fB (sn (G.take (r + 1))))) := by rw [hsn.out]; exact V1q.out.setB _ _
                            have hne : hov.ownBlock ≠ some Dn := O1q.out.ne ⟨_, V1q.out⟩ (by decide)
                            have O2 : Hid (Own (w7.setCell ⟨Dn, b.toNat, none⟩ (.bool true)) (B + 4) hov (A ++ sel b (zs.take 0) (rs.take 0))) := by
                              have e : A ++ sel b (zs.take 0) (rs.take 0) = A := List.append_nil A
                              rw [e]; exact O1q.out.setCell hne _
                            have hDn4 : B + 4 ≤ Dn := hw5
                            have L2 : Hid (Below (B + 4) w4 (w7.setCell ⟨Dn, b.toNat, none⟩ (.bool true))) := L1q.out.setCell hDn4 _
                            have hb0 : ¬ (b < 0) := by omega
                            clear hbe hbest' V1q O1q L1q hne hAA
                            go_wp2
                            obtain ⟨w8, hw8⟩ : ∃ w8, w8 = w7.setCell ⟨Dn, b.toNat, none⟩ (.bool true) := ⟨_, rfl⟩
                            rw [← hw8]
                            rw [← hw8] at V2 O2 L2
                            clear hw8
                            go_loopw [15, 158] (fun ov ii wr => ∃ i : Nat, i ≤ zs.length ∧ ii = .int .i64 (i : Int) ∧ Own wr (B + 4) ov (A ++ sel b (zs.take i) (rs.take i)) ∧ VRow wr Dn 54 256 (fB (sn (G.take (r + 1)))) ∧ Below (B + 4) w4 wr) (fun _ ii _ => zs.length - (intOf ii).toNat)
                            case atStart => exact ⟨0, Nat.zero_le _, rfl, O2.out, V2.out, L2.out⟩
                            case round =>
                              obtain ⟨i, hi, rfl, o, r1, r2⟩ := hrel
                              clear O2 V2 L2 dc df
                              by_cases hlt3 : i < zs.length
                              · obtain ⟨x, hx, gx⟩ := HRD.out i hlt3
                                obtain rfl := Option.some.inj hx
                                rw [add_eq, Nat.zero_add] at gx
                                have hzi := HBY.out.get i hlt3
                                have hw4b : B ≤ B + 4 := by omega
                                have cS : wr.cell? ⟨S, i, none⟩ = some (.int .u8 (zs.getD i 0)) := (r2.cell (p := ⟨S, i, none⟩) (show S < B + 4 by omega)).trans ((R5.out.cell (p := ⟨S, i, none⟩) hS).trans gx)
                                have cR : wr.cell? ⟨B + 3, i, none⟩ = some (.int .u8 (rs.getD i 0)) := by
                                  rw [← R3.out i hlt3]
                                  exact (R2.out.below r2 (by omega)).cell i hlt3
                                have hst' := sel_take b zs rs RL.out i hlt3
                                have hsl' : (sel b (zs.take i) (rs.take i)).length ≤ 9000 := by
                                  rw [sel_len _ _ _ (by have := RL.out; simp; omega)]
                                  exact Nat.le_trans List.count_le_length (by simp; omega)
                                have HST := (show Hid _ from hst')
                                have hiI : (i : Int) < zs.length := by omega
                                have O3 : Hid (Own wr (B + 4) u15 (A ++ sel b (zs.take i) (rs.take i))) := o
                                have V3 : Hid (VRow wr Dn 54 256 (fB (sn (G.take (r + 1))))) := r1
                                have L3 : Hid (Below (B + 4) w4 wr) := r2
                                have hsz : B + 4 ≤ wr.heap.size := Nat.le_trans R6.out r2.size
                                generalize zs.getD i 0 = z at *
                                generalize rs.getD i 0 = ri at *
                                generalize hSS : sel b (zs.take i) (rs.take i) = SS at *
                                clear hst' o r1 r2 hx gx hSS
                                by_cases hzb : z = b
                                · subst hzb
                                  have HB' : Hid (Below (B + 4) w4 (wr.alloc (.cells #[.int .u8 ri] 5))) := L3.out.alloc hsz _
                                  have hO' : Own wr (B + 4) u15 (A ++ SS) := O3.out
                                  go_wp2_with (first | (at_builtin; refine wpList_append_bytes rfl _ _ rfl (B + 4) _ (A ++ SS) rfl (hO'.alloc _) (some ⟨wr.heap.size, 0, none⟩) 1 1 [ri] rfl rfl ?c1 (fun h => by cases h) (by simp; omega) (by simp; omega) w4 HB'.out ?_))
                                  case c1 =>
                                    intro j hj
                                    have : j = 0 := by simpa using hj
                                    subst this
                                    exact ⟨_, rfl, by simp [Addr.add]⟩
                                  · intro v' w1 hown1 hb1 hgr
                                    have V4 : Hid (VRow w1 Dn 54 256 (fB (sn (G.take (r + 1))))) := (V3.out.alloc _).kept (Fr.grown hgr) (hO'.ne ⟨_, V3.out⟩ (by decide))
                                    have O4 : Hid (Own w1 (B + 4) v' (A ++ sel z (zs.take (i + 1)) (rs.take (i + 1)))) := by
                                      rw [HST.out]; first | rw [if_pos rfl] | rw [if_pos trivial]
                                      first | exact hown1 | (rw [← List.append_assoc]; exact hown1)
                                    have L4 : Hid (Below (B + 4) w4 w1) := hb1
                                    clear hown1 hb1 hgr hO'
                                    go_wp2
                                    go_roundw
                                    case rel => exact ⟨i + 1, by omega, by go_num, O4.out, V4.out, L4.out⟩
                                    case measure => simp [intOf]; omega
                                · have O4 : Hid (Own wr (B + 4) u15 (A ++ sel b (zs.take (i + 1)) (rs.take (i + 1)))) := by
                                    rw [HST.out, if_neg hzb, List.append_nil]; exact O3.out
                                  have hzb1 : ¬ (b = z) := fun h => hzb h.symm
                                  have hzb2 : (z == b) = false := by simp [hzb]
                                  have hzb3 : decide (z = b) = false := by simp [hzb]
                                  go_wp2
                                  go_roundw
                                  case rel => exact ⟨i + 1, by omega, by go_num, O4.out, V3.out, L3.out⟩
                                  case measure => simp [intOf]; omega
                              · obtain rfl : i = zs.length := by omega
                                have O5 : Hid (Own wr (B + 4) u15 (hs ++ grp (G.take (r + 1)) zs rs)) := by
                                  have h := o
                                  have e : sel b (zs.take zs.length) (rs.take zs.length) = sel b zs rs := by
                                    rw [List.take_length, List.take_of_length_le (by have := RL.out; omega)]
                                  rw [e, ← HAA.out, List.append_assoc, ← hgn.out] at h
                                  exact h
                                have V5 : Hid (VRow wr Dn 54 256 (fB (sn (G.take (r + 1))))) := r1
                                have L5 : Hid (Below (B + 4) w4 wr) := r2
                                clear o r1 r2
                                go_wp2
                                go_roundw
                                case rel => exact ⟨r + 1, by omega, by go_num, O5.out, V5.out, L5.out⟩
                                case measure => simp [intOf]; omega
                          · have hb1 : b = -1 := best_none ORD.out hbest' (by omega)
                            subst hb1
                            have HM := (show Hid _ from FINq.out (by omega))
                            clear hbest'
                            go_wp2
                            go_ret
                            exact HM.out
                    · have HM : Hid (ModPost zs G w (.returned hov) w6) := HFIN.out (by omega) 0
                      have hrI : ¬ ((r : Int) < 256) := by omega
                      clear HFIN
                      go_wp2
                      go_ret
                      exact HM.out
end Go.Proofs.Ybulkcmdi
