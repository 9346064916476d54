import Derived.Test.YbulkcmdiSrtQ
import Derived.Test.YbulkcmdiBuild
import Derived.Lib.MinMax
namespace Go.Proofs.Ybulkcmdi
open Go.RowKit
set_option linter.unusedVariables false
set_option linter.unusedSimpArgs false

def SrtPost (zs : List Int) (w : World) (e : Ending) (w' : World) : Prop := ∃ G g, Ordered (cn zs) G ∧ e = .returned (.slice (some ⟨g, 0, none⟩) (spec zs G).length (spec zs G).length) ∧ Rd w' (some ⟨g, 0, none⟩) (spec zs G) ∧ Below w.heap.size w w' ∧ w.heap.size ≤ g ∧ g < w'.heap.size

theorem oneV (n : Nat) (F : Nat → Value) (h : ∀ i, (F i).oneCell' = true) : (arrV n F).all (·.oneCell') = true := by
  rw [Array.all_eq_true]; intro i hi; simp [arrV]; exact h i
theorem idx46 (F : Nat → Value) (v : Nat) (hv : v < 256) (w : World) : Sem.run Yba.prog (Instr.index 46 (.agg (arrV 256 F)) (.int .i64 (v : Int))) w = .ok (F v) w := by
  have h0 : (0 : Int) ≤ v := by omega
  have h2 : (v : Int) < 256 := by omega
  have hg := arrV_get 256 F v hv
  simp [Instr.index, run_underlying Yba.underlying46, asIntOf, go_sem, h0, h2, hv, hg]
theorem arr_zeros (n : Nat) : Array.replicate n (Value.int .u8 0) = arrN n (fun _ => 0) := by
  apply Array.ext
  · simp [arrN]
  · intro i h1 h2; simp [arrN]
theorem piece (zs : List Int) (o k : Nat) : zs.take (o + k) = zs.take o ++ (zs.drop o).take k := by rw [List.take_add]
theorem piece_rank (L : Nat → Int) (zs : List Int) (o k j : Nat) (ho : o + k ≤ zs.length) (hj : j < k) : (mtfR (mtfL L (zs.take o)) ((zs.drop o).take k)).getD j 0 = (mtfR L zs).getD (o + j) 0 := by
  have e : mtfR L zs = mtfR L (zs.take o) ++ (mtfR (mtfL L (zs.take o)) ((zs.drop o).take k) ++ mtfR (mtfL (mtfL L (zs.take o)) ((zs.drop o).take k)) ((zs.drop o).drop k)) := by
    rw [← mtfR_app, ← mtfR_app, List.take_append_drop, List.take_append_drop]
  have h1 : (mtfR L (zs.take o)).length = o := by rw [mtfR_len]; simp; omega
  have h2 : (mtfR (mtfL L (zs.take o)) ((zs.drop o).take k)).length = k := by rw [mtfR_len]; simp; omega
  rw [e, List.getD_eq_getElem?_getD, List.getD_eq_getElem?_getD, List.getElem?_append_right (by omega), h1, show o + j - o = j by omega, List.getElem?_append_left (by omega)]
theorem make_sum (H n : Nat) (h : H + n ≤ 100000) (w : World) : Sem.run Yba.prog (Instr.makeSlice 22 (.int .i64 ((H : Int) + (n : Int))) (.int .i64 ((H : Int) + (n : Int)))) w = .ok (.slice (some ⟨w.heap.size, 0, none⟩) (H + n) (H + n)) (w.alloc (.cells (Array.replicate (H + n) (.int .u8 0)) 5)) := by
  have := makeN (H + n) h w
  rwa [show (((H + n : Nat)) : Int) = (H : Int) + n by omega] at this
theorem laid_head (hs : List Int) (n : Nat) : (splice (List.replicate (hs.length + n) (Value.int .u8 0)) 0 (hs.map (Value.int .u8))).toArray = arrN (hs.length + n) (rowOf hs) := by
  apply Array.ext
  · simp [splice, arrN]
  · intro i h1 h2
    have hi : i < hs.length + n := by simpa [arrN] using h2
    by_cases h : i < hs.length
    · simp [splice, arrN, rowOf, List.getElem_append, h]
    · simp [splice, arrN, rowOf, List.getElem_append, h]
theorem fo_take (zs : List Int) (k : Nat) (hk : k < zs.length) : fo (zs.take (k + 1)) = ins (fo (zs.take k)) (zs.getD k 0) := by rw [take_next zs k hk, fo_snoc]
theorem cnI_take (zs : List Int) (k : Nat) (hk : k < zs.length) (h0 : 0 ≤ zs.getD k 0) : cnI (zs.take (k + 1)) = upd (cnI (zs.take k)) (zs.getD k 0).toNat (cnI (zs.take k) (zs.getD k 0).toNat + 1) := by
  rw [take_next zs k hk, cnI_snoc _ _ h0]

set_option maxHeartbeats 6400000 in
set_option maxRecDepth 100000 in
theorem srt_u (S cs : Nat) (zs : List Int) (w : World) (hby : Bytes zs) (hl : zs.length ≤ 9000) (hrd : Rd w (some ⟨S, 0, none⟩) zs) (hcs : cs = zs.length) (hS : S < w.heap.size) :
    Calls Yba.prog 6 #[.slice (some ⟨S, 0, none⟩) zs.length cs] w fun e w' => SrtPost zs w e w' := by
  have HBY : Hid (Bytes zs) := hby
  have HRD : Hid (Rd w (some ⟨S, 0, none⟩) zs) := hrd
  have HCS : Hid (cs = zs.length) := hcs
  have hz46 := zero46
  have hz47 := zero47
  clear hby hrd hcs
  go_enter Yba.func6, Yba.ntmps6
  go_wp2
  obtain ⟨W1, hW1⟩ : ∃ W1, W1 = (w.alloc (.cells (arrV 256 (fI fun _ => 0)) 46)).alloc (.cells (arrN 256 fun _ => 0) 47) := ⟨_, rfl⟩
  rw [← hW1]
  generalize hB : w.heap.size = B at *
  have HB : Hid (w.heap.size = B) := hB
  have s1 : VRow W1 B 46 256 (fI (cnI [])) := by
    have h := (VRow.new w 46 256 (fI fun _ => 0)).alloc (.cells (arrN 256 fun _ => 0) 47)
    rw [hB] at h
    rw [hW1]; exact h
  have s2 : RowAt W1 (B + 1) 47 256 (rowOf (fo [])) := by
    have h := RowAt.new (w.alloc (.cells (arrV 256 (fI fun _ => 0)) 46)) 47 256 (fun _ => 0)
    have hs : (w.alloc (.cells (arrV 256 (fI fun _ => 0)) 46)).heap.size = B + 1 := by simp [hB]
    rw [hs] at h
    rw [hW1]; exact h
  have s3 : Below B w W1 := by
    rw [hW1, ← hB]; exact ((Below.refl _ _).alloc (Nat.le_refl _) _).alloc (by simp) _
  have s4 : W1.heap.size = B + 2 := by rw [hW1]; simp [hB]
  have S1 := (show Hid _ from s1)
  have S2 : Hid (RowAt W1 (B + 1) 47 256 (rowOf (fo []))) := s2
  have S3 := (show Hid _ from s3)
  have S4 := (show Hid _ from s4)
  clear s1 s2 s3 s4 hW1 hz46 hz47 hB
  go_loopw [5, 24] (fun mm ii wr => ∃ k : Nat, k ≤ zs.length ∧ ii = .int .i64 (k : Int) ∧ mm = .int .i64 ((fo (zs.take k)).length : Int) ∧ VRow wr B 46 256 (fI (cnI (zs.take k))) ∧ RowAt wr (B + 1) 47 256 (rowOf (fo (zs.take k))) ∧ Below B w wr ∧ wr.heap.size = B + 2) (fun _ ii _ => zs.length - (intOf ii).toNat)
  case atStart => exact ⟨0, Nat.zero_le _, rfl, rfl, S1.out, S2.out, S3.out, S4.out⟩
  case round =>
    obtain ⟨k, hk, rfl, rfl, r1, r2, r3, r4⟩ := hrel
    clear S1 S2 S3 S4
    have R1 : Hid (VRow wr B 46 256 (fI (cnI (zs.take k)))) := r1
    have R2 : Hid (RowAt wr (B + 1) 47 256 (rowOf (fo (zs.take k)))) := r2
    have R3 : Hid (Below B w wr) := r3
    have R4 : Hid (wr.heap.size = B + 2) := r4
    clear r1 r2 r3 r4
    by_cases hlt : k < zs.length
    · obtain ⟨x, hx, gx⟩ := HRD.out k hlt
      obtain rfl := Option.some.inj hx
      have hzk := HBY.out.get k hlt
      have hcx : wr.cell? ((⟨S, 0, none⟩ : Addr).add k) = some (.int .u8 (zs.getD k 0)) := (R3.out.cell (by rw [add_block]; exact hS)).trans gx
      rw [add_eq, Nat.zero_add] at hcx
      have h1 := fo_take zs k hlt
      have h2 := cnI_take zs k hlt hzk.1
      have h3 := fo_room (zs.take k) (HBY.out.take k) (zs.getD k 0) hzk
      have h4 := cn_zero (zs.take k) (zs.getD k 0).toNat
      have h5 := cn_le (zs.take k) (zs.getD k 0).toNat
      have h6 : (zs.take k).length ≤ 9000 := by simp; omega
      rw [show (((zs.getD k 0).toNat : Nat) : Int) = zs.getD k 0 by omega] at h4
      have kc := R1.out.cell (zs.getD k 0).toNat (by omega)
      have kf := R1.out.frozen (zs.getD k 0).toNat
      generalize hC : zs.getD k 0 = c at *
      have hcI : cnI (zs.take k) c.toNat = (cn (zs.take k) c.toNat : Int) := rfl
      have kc' : wr.cell? ⟨B, c.toNat, none⟩ = some (.int .i64 (cn (zs.take k) c.toNat : Int)) := kc
      rw [hcI] at h2
      generalize hN : cn (zs.take k) c.toNat = N at *
      have H1 := (show Hid _ from h1)
      have H2 := (show Hid _ from h2)
      have hki : (k : Int) < zs.length := by omega
      have hNb : (N : Int) ≤ 9000 := by omega
      have hxx : Hid (gx = gx) := rfl
      clear h1 h2 kc hcI hx gx hxx hC hN h5 h6
      by_cases hN0 : N = 0
      · have hni : c ∉ fo (zs.take k) := h4.1 hN0
        have hroom := h3 hni
        have lc := R2.out.cell (fo (zs.take k)).length hroom
        have lf := R2.out.frozen (fo (zs.take k)).length
        generalize hA : fo (zs.take k) = A at *
        generalize hM : A.length = M at *
        have HA := (show Hid _ from hA)
        have HM := (show Hid _ from hM)
        have HNI := (show Hid _ from hni)
        subst hN0
        have hMI : (M : Int) < 256 := by omega
        clear h3 h4 hA hM hni
        go_wp2
        go_roundw
        case rel =>
          have hins : ins A c = A ++ [c] := by unfold ins; rw [if_neg HNI.out]
          refine ⟨k + 1, by omega, by go_num, ?_, ?_, ?_, ?_, ?_⟩
          · rw [H1.out, hins, List.length_append, HM.out]; go_num
          · rw [H2.out]; exact (R1.out.far (by simp) _).setI _ _
          · rw [H1.out, hins, ← rowOf_snoc, HM.out]
            have h := R2.out.set M c
            exact h.far (by simp) _
          · exact (R3.out.setCell (by show B ≤ B + 1; omega) _).setCell (Nat.le_refl _) _
          · simpa [World.setCell] using R4.out
        case measure => simp [intOf]; omega
      · have hNI : ¬ ((N : Int) = 0) := by omega
        go_wp2
        go_roundw
        case rel =>
          have hins : ins (fo (zs.take k)) c = fo (zs.take k) := by
            unfold ins; rw [if_pos (Classical.not_not.1 (fun h => hN0 (h4.2 h)))]
          refine ⟨k + 1, by omega, by go_num, ?_, ?_, ?_, ?_, ?_⟩
          · rw [H1.out, hins]
          · rw [H2.out]; exact R1.out.setI _ _
          · rw [H1.out, hins]; exact R2.out.far (by simp) _
          · exact R3.out.setCell (Nat.le_refl _) _
          · simpa [World.setCell] using R4.out
        case measure => simp [intOf]; omega
    · obtain rfl : k = zs.length := by omega
      have e0 : zs.take zs.length = zs ++ r256 0 := by rw [List.take_length]; simp [r256]
      have e1 : zs.take zs.length = zs := List.take_length
      have Q2 : Hid (RowAt wr (B + 1) 47 256 (rowOf (fo (zs ++ r256 0)))) := by rw [← e0]; exact R2
      have Q1 : Hid (VRow wr B 46 256 (fI (cnI zs))) := by have h := R1.out; rw [e1] at h; exact h
      have Q0 : Hid ((fo (zs ++ r256 0)).length = (fo zs).length) := by rw [← e0, e1]; exact rfl
      obtain ⟨w2, hw2⟩ : ∃ w2, w2 = wr := ⟨_, rfl⟩
      subst hw2
      clear R1 R2 e0 e1
      go_wp2
      go_loopw [5, 43] (fun mm ii wr => ∃ v : Nat, v ≤ 256 ∧ ii = .int .i64 (v : Int) ∧ mm = .int .i64 ((fo (zs ++ r256 v)).length : Int) ∧ VRow wr B 46 256 (fI (cnI zs)) ∧ RowAt wr (B + 1) 47 256 (rowOf (fo (zs ++ r256 v))) ∧ Below B w wr ∧ wr.heap.size = B + 2) (fun _ ii _ => 256 - (intOf ii).toNat)
      case atStart => exact ⟨0, Nat.zero_le _, rfl, by rw [Q0.out, List.take_length], Q1.out, Q2.out, R3.out, R4.out⟩
      case round =>
        obtain ⟨v, hv, rfl, rfl, r1, r2, r3, r4⟩ := hrel
        clear Q1 Q2 Q0 R3 R4
        have R1 : Hid (VRow wr B 46 256 (fI (cnI zs))) := r1
        have R2 : Hid (RowAt wr (B + 1) 47 256 (rowOf (fo (zs ++ r256 v)))) := r2
        have R3 : Hid (Below B w wr) := r3
        have R4 : Hid (wr.heap.size = B + 2) := r4
        clear r1 r2 r3 r4
        by_cases hlt : v < 256
        · have hbz : Bytes (zs ++ r256 v) := fun z hz => by
            rcases List.mem_append.1 hz with hz | hz
            · exact HBY.out z hz
            · have := (r256_mem v z).1 hz; omega
          have h3 := fo_room (zs ++ r256 v) hbz (v : Int) ⟨by omega, by omega⟩
          have h1 : fo (zs ++ r256 (v + 1)) = ins (fo (zs ++ r256 v)) v := by rw [r256_succ, ← List.append_assoc, fo_snoc]
          have h4 : cn zs v = 0 ↔ (v : Int) ∉ fo (zs ++ r256 v) := by
            rw [cn_zero, fo_mem, fo_mem, List.mem_append, r256_mem]
            constructor
            · intro h h'; rcases h' with h' | h'
              · exact h h'
              · omega
            · intro h h'; exact h (Or.inl h')
          have h5 := cn_le zs v
          have kc' : wr.cell? ⟨B, v, none⟩ = some (.int .i64 (cn zs v : Int)) := R1.out.cell v hlt
          have H1 := (show Hid _ from h1)
          have hvI : (v : Int) < 256 := by omega
          have hv8 : (v : Int) % 256 = v := by omega
          clear h1 hbz
          generalize hN : cn zs v = N at *
          have hNb : (N : Int) ≤ 9000 := by omega
          clear h5 hN
          by_cases hN0 : N = 0
          · have hni : (v : Int) ∉ fo (zs ++ r256 v) := h4.1 hN0
            have hroom := h3 hni
            have lc := R2.out.cell (fo (zs ++ r256 v)).length hroom
            have lf := R2.out.frozen (fo (zs ++ r256 v)).length
            generalize hA : fo (zs ++ r256 v) = A at *
            generalize hM : A.length = M at *
            have HA := (show Hid _ from hA)
            have HM := (show Hid _ from hM)
            have HNI := (show Hid _ from hni)
            subst hN0
            have hMI : (M : Int) < 256 := by omega
            clear h3 h4 hA hM hni
            go_wp2
            go_roundw
            case rel =>
              have hins : ins A v = A ++ [(v : Int)] := by unfold ins; rw [if_neg HNI.out]
              refine ⟨v + 1, by omega, by go_num, ?_, ?_, ?_, ?_, ?_⟩
              · rw [H1.out, hins, List.length_append, HM.out]; go_num
              · exact R1.out.far (by simp) _
              · rw [H1.out, hins, ← rowOf_snoc, HM.out]
                exact R2.out.set M v
              · exact R3.out.setCell (by show B ≤ B + 1; omega) _
              · simpa [World.setCell] using R4.out
            case measure => simp [intOf]; omega
          · have hNI : ¬ ((N : Int) = 0) := by omega
            go_wp2
            go_roundw
            case rel =>
              have hins : ins (fo (zs ++ r256 v)) v = fo (zs ++ r256 v) := by
                unfold ins; rw [if_pos (Classical.not_not.1 (fun h => hN0 (h4.2 h)))]
              refine ⟨v + 1, by omega, by go_num, ?_, R1.out, ?_, R3.out, R4.out⟩
              · rw [H1.out, hins]
              · rw [H1.out, hins]; exact R2.out
            case measure => simp [intOf]; omega
        · obtain rfl : v = 256 := by omega
          obtain ⟨w3, hw3⟩ : ∃ w3, w3 = wr := ⟨_, rfl⟩
          subst hw3
          have hrow : w3.heap[B]? = some (.cells (arrV 256 (fI (cnI zs))) 46 (0, 0)) := R1.out
          have R2' : Hid (RowAt w3 (B + 1) 47 256 (fol zs)) := R2
          clear R2 hlt hv
          go_wp2_with (first | (refine wpList_load_row rfl 46 _ rfl B rfl 46 (arrV 256 (fI (cnI zs))) (0, 0) _ hrow Yba.underlying46 rfl (by rw [arrV_size]; exact size46) ?_))
          go_loopw [9, 58] (fun hv ii wr => ∃ v : Nat, v ≤ 256 ∧ ii = .int .i64 (v : Int) ∧ Own wr (B + 2) hv (hd (cn zs) v) ∧ Below (B + 2) w3 wr) (fun _ ii _ => 256 - (intOf ii).toNat)
          case atStart => exact ⟨0, Nat.zero_le _, rfl, World.ownsRow_nil _ _ _ _, Below.refl _ _⟩
          case round =>
            obtain ⟨v, hv, rfl, o, hb⟩ := hrel
            by_cases hlt : v < 256
            · have hvI : (v : Int) < 256 := by omega
              have hix := idx46 (fI (cnI zs)) v hlt
              have hh := hd_len (cn zs) v
              have h5 := cn_le zs v
              have hiv : fI (cnI zs) v = .int .i64 (cn zs v : Int) := rfl
              rw [hiv] at hix
              have HH : Hid (hd (cn zs) (v + 1) = hd (cn zs) v ++ uv 9 (cn zs v)) := rfl
              generalize hN : cn zs v = N at *
              have hsz := hb.size
              have hr4 := R4.out
              have key := appuv_u (B + 2) u9 (hd (cn zs) v) N wr o (by omega) (by omega) (by omega)
              have HBL := (show Hid _ from hb)
              have hN1 : (N : Int) ≤ 9000 := by omega
              have hN2 : (N : Int) % 18446744073709551616 = N := by omega
              clear o hb hh h5 hN hsz hr4 hiv
              go_wp2_with fail
              refine key.mono ?_
              rintro e w4 ⟨hv4, rfl, o4, b4⟩
              have HO4 : Hid (Own w4 (B + 2) hv4 (hd (cn zs) (v + 1))) := by rw [HH.out]; exact o4
              have HB4 : Hid (Below (B + 2) w3 w4) := HBL.out.trans b4
              clear o4 b4
              go_wp2
              go_roundw
              case rel => exact ⟨v + 1, by omega, by go_num, HO4.out, HB4.out⟩
              case measure => simp [intOf]; omega
            · obtain rfl : v = 256 := by omega
              obtain ⟨w4, hw4⟩ : ∃ w4, w4 = wr := ⟨_, rfl⟩
              subst hw4
              have hge := hd_ge (cn zs) 256
              have hle := hd_len (cn zs) 256
              have R1w : Hid (VRow w4 B 46 256 (fI (cnI zs))) := R1.out.below hb (by omega)
              have R2w : Hid (RowAt w4 (B + 1) 47 256 (fol zs)) := R2'.out.below hb (by omega)
              have R3w : Hid (Below B w w4) := R3.out.trans (hb.mono (by omega))
              have R4w : B + 2 ≤ w4.heap.size := by have := hb.size; have := R4.out; omega
              obtain ⟨g, cap, rfl, hg0, hgl, hgc⟩ : ∃ g cap, u9 = .slice (some ⟨g, 0, none⟩) (hd (cn zs) 256).length cap ∧ B + 2 ≤ g ∧ g < w4.heap.size ∧ ∀ j, j < (hd (cn zs) 256).length → w4.cell? ⟨g, j, none⟩ = some (.int .u8 ((hd (cn zs) 256).getD j 0)) := by
                rcases o.shape with ⟨_, h⟩ | h
                · rw [h] at hge; simp at hge
                · exact h
              obtain ⟨hs, HS⟩ : ∃ hs, Hid (hs = hd (cn zs) 256) := ⟨_, rfl⟩
              rw [← HS.out] at hge hle hgc
              rw [← HS.out]
              obtain ⟨H, HH⟩ : ∃ H, Hid (H = hs.length) := ⟨_, rfl⟩
              rw [← HH.out] at hge hle hgc
              rw [← HH.out]
              have HGC := (show Hid _ from hgc)
              obtain ⟨cs2, HC2⟩ : ∃ cs2, Hid (cs2 = hs.map (Value.int .u8)) := ⟨_, rfl⟩
              have hcl2 : Hid (cs2.length = H) := by rw [HC2.out, HH.out]; exact List.length_map _
              have hone : ∀ v ∈ cs2, v.oneCell' = true := by
                intro v hv
                rw [HC2.out] at hv
                obtain ⟨a, _, rfl⟩ := List.mem_map.1 hv
                rfl
              have hmk := make_sum H zs.length (by omega)
              have hz46 := zero46
              have hHI : (H : Int) ≤ 2560 := by omega
              clear R1 R2' R3 R4 o hb hgc hrow hlt hv
              go_wp2_with (first | (refine wpList_copy_splice rfl _ _ 22 22 rfl 5 Yba.underlying22 Yba.size5 (some ⟨w4.heap.size, 0, none⟩) (some ⟨g, 0, none⟩) (H + zs.length) (H + zs.length) H cap rfl rfl w4.heap.size 0 (List.replicate (H + zs.length) (.int .u8 0)) 5 ?hg cs2 ?hn ?hpos ?hfit hone w4.heap.size w4 ?hb (Nat.le_refl _) ?rest))
              case hg => first | exact Array.getElem_push_eq | (simp; exact Array.getElem_push_eq)
              case hn => have := hcl2.out; simp; omega
              case hpos =>
                intro h j v hv
                have hj : j < H := by have := (List.getElem?_eq_some_iff.1 hv).1; have := hcl2.out; omega
                refine (HGC.out j hj).trans ?_
                rw [HC2.out] at hv
                have hj' : j < hs.length := by rw [← HH.out]; exact hj
                simp [hj'] at hv ⊢
                exact hv
              case hfit => have := hcl2.out; simp; omega
              case hb => exact (Below.refl _ _).alloc (Nat.le_refl _) _
              case rest =>
                intro w5 hg5 hb5
                have T1 : Hid (RowAt w5 w4.heap.size 5 (H + zs.length) (rowOf hs)) := by
                  have h := hg5.out
                  rw [HC2.out, HH.out, laid_head] at h
                  rw [HH.out]; exact h
                have T5 : Hid (Below w4.heap.size w4 w5) := hb5
                have hD : w4.heap.size < w5.heap.size := T1.out.lt
                have T2 : Hid (VRow w5 B 46 256 (fI (cnI zs))) := R1w.out.below hb5 (by omega)
                have T3 : Hid (RowAt w5 (B + 1) 47 256 (fol zs)) := R2w.out.below hb5 (by omega)
                have T4 : Hid (Below B w w5) := R3w.out.trans (hb5.mono (by omega))
                clear hg5 hb5 R1w R2w R3w HGC HC2 hcl2 hone hmk T5
                generalize hDD : w4.heap.size = D at *
                generalize hNN : w5.heap.size = Nb at *
                have HNN : Hid (w5.heap.size = Nb) := hNN
                clear hDD hgl
                go_wp2_with fail
                obtain ⟨W6, hW6⟩ : ∃ W6, W6 = w5.alloc (.cells (arrV 256 (fI fun _ => 0)) 46) := ⟨_, rfl⟩
                rw [← hW6]
                have hf6 : Fr (fun _ => False) w5 W6 := by rw [hW6]; exact Fr.alloc _ _ _
                have X2 : Hid (VRow W6 B 46 256 (fI (cnI zs))) := T2.out.kept hf6 (fun h => h)
                have X0 : VRow W6 Nb 46 256 (fI fun _ => 0) := by
                  have h := VRow.new w5 46 256 (fI fun _ => 0)
                  rw [HNN.out] at h; rw [hW6]; exact h
                have hs6 : W6.heap.size = Nb + 1 := by rw [hW6]; simp [HNN.out]
                refine (group_u (cn zs) (fun v => by have := cn_le zs v; omega) B W6 (by omega) (fun v hv => X2.out.cell v hv)).mono ?_
                rintro e w7 ⟨ao, cg, G, rfl, grd, ord, gb, gw, gn⟩
                have Y1 : Hid (RowAt w7 D 5 (H + zs.length) (rowOf hs)) := (T1.out.kept hf6 (fun h => h)).below gb (by omega)
                have Y2 : Hid (VRow w7 B 46 256 (fI (cnI zs))) := X2.out.below gb (by omega)
                have Y3 : Hid (RowAt w7 (B + 1) 47 256 (fol zs)) := (T3.out.kept hf6 (fun h => h)).below gb (by omega)
                have Y4 : Hid (Below B w w7) := (T4.out.trans (hf6.below (by omega) (fun k hk => hk.elim))).trans (gb.mono (by omega))
                have Y5 : Hid (VRow w7 Nb 46 256 (fI fun _ => 0)) := X0.below gb (by omega)
                have ORD : Hid (Ordered (cn zs) G) := ord
                have GRD : Hid (Rd w7 ao G) := grd
                have GW := (show Hid _ from gw)
                have hGl := ord.len
                have hs7 : Nb + 1 ≤ w7.heap.size := by have := gb.size; omega
                have GX : Hid (∀ x, ao = some x → x.block ≠ Nb) := fun x hx => by have := (gw x hx).1; omega
                obtain ⟨rs, RS⟩ : ∃ rs, Hid (rs = mtfR (fol zs) zs) := ⟨_, rfl⟩
                have RL : Hid (zs.length = rs.length) := by rw [RS.out]; exact (mtfR_len _ _).symm
                have hst0 : Hid ((H : Nat) = stt H G zs rs 0) := by unfold stt; exact (Nat.add_zero _).symm
                have hTO : Hid (stt H G zs rs G.length = H + zs.length) := stt_total H G zs rs RL.out ord.nodup (ord.has HBY.out)
                clear T1 T2 T3 T4 X2 X0 hf6 hW6 hs6 grd ord gb gw gn hz46
                go_wp2
                go_loopw [14, 79] (fun aa ii wr => ∃ (i : Nat) (f : Nat → Int), i ≤ G.length ∧ ii = .int .i64 (i : Int) ∧ aa = .int .i64 (stt H G zs rs i : Int) ∧ VRow wr Nb 46 256 (fI f) ∧ (∀ j, j < i → f (G.getD j 0).toNat = (stt H G zs rs j : Nat)) ∧ Fr (fun k => k = Nb) w7 wr) (fun _ ii _ => G.length - (intOf ii).toNat)
                case atStart => exact ⟨0, _, Nat.zero_le _, rfl, by rw [← hst0.out], Y5.out, fun j hj => by omega, Fr.refl _ _⟩
                case round =>
                  obtain ⟨i, f, hi, rfl, rfl, r1, r2, r3⟩ := hrel
                  clear Y5
                  by_cases hlt : i < G.length
                  · have hb' := ORD.out.byte i hlt
                    obtain ⟨x, hx, gx⟩ := GRD.out i hlt
                    have hix : ∀ wx, Sem.run Yba.prog (Instr.indexAt 22 (.slice ao G.length cg) (.int .i64 (i : Int))) wx = .ok (.pointer (some (x.add i))) wx := by
                      intro wx
                      rw [hx]
                      have hk0 : (0 : Int) ≤ i := by omega
                      have hk1 : (i : Int) < G.length := by omega
                      go_simp
                    have hcx : wr.cell? (x.add i) = some (.int .u8 (G.getD i 0)) := (r3.cell (World.block_lt_of_cell? _ _ gx) (by rw [add_block]; exact GX.out x hx)).trans gx
                    have kc : wr.cell? ⟨B, (G.getD i 0).toNat, none⟩ = some (.int .i64 (cn zs (G.getD i 0).toNat : Int)) := (Y2.out.kept r3 (by omega)).cell _ (by omega)
                    have nc := r1.cell (G.getD i 0).toNat (by omega)
                    have nf := r1.frozen (G.getD i 0).toNat
                    have hsu := stt_succ H G zs rs RL.out i hlt
                    have hm1 := stt_mono H G zs rs RL.out (i + 1) G.length (by omega) (Nat.le_refl _)
                    have hto := hTO.out
                    have hcn : zs.count (G.getD i 0) = cn zs (G.getD i 0).toNat := by
                      unfold cn; rw [show (((G.getD i 0).toNat : Nat) : Int) = G.getD i 0 by omega]
                    rw [hcn] at hsu
                    have hinj : Hid (∀ j, j < i → (G.getD j 0).toNat ≠ (G.getD i 0).toNat) := fun j hj e => by
                      have h1 := ORD.out.byte j (by omega)
                      have := ORD.out.inj j i (by omega) hlt (by omega)
                      omega
                    have R1 : Hid (VRow wr Nb 46 256 (fI f)) := r1
                    have R2 := (show Hid _ from r2)
                    have R3 : Hid (Fr (fun k => k = Nb) w7 wr) := r3
                    have hiI : (i : Int) < G.length := by omega
                    have hBN : B ≠ Nb := by omega
                    generalize hcc : G.getD i 0 = c at *
                    generalize hkk : cn zs c.toNat = kk at *
                    generalize hs1 : stt H G zs rs i = s1 at *
                    have HSU : Hid (stt H G zs rs (i + 1) = s1 + kk) := hsu
                    have HS1 := (show Hid _ from hs1)
                    have hsb : (s1 : Int) + (kk : Int) ≤ 20000 := by omega
                    have HCC := (show Hid _ from hcc)
                    clear hsu hm1 hto hcn r1 r2 r3 hcc hkk hs1 hx gx
                    go_wp2
                    go_roundw
                    case rel =>
                      refine ⟨i + 1, upd f c.toNat s1, by omega, by go_num, by rw [HSU.out]; go_num, R1.out.setI _ _, fun j hj => ?_, R3.out.trans (Fr.setCell (R := fun k => k = Nb) _ rfl _)⟩
                      unfold upd
                      by_cases e : j = i
                      · subst e; rw [HCC.out, if_pos rfl, HS1.out]
                      · rw [if_neg (hinj.out j (by omega))]; exact R2.out j (by omega)
                    case measure => simp [intOf]; omega
                  · obtain rfl : i = G.length := by omega
                    obtain ⟨w8, hw8⟩ : ∃ w8, w8 = wr := ⟨_, rfl⟩
                    subst hw8
                    have Z1 : Hid (VRow w8 Nb 46 256 (fI f)) := r1
                    have Z2 : Hid (RowAt w8 D 5 (H + zs.length) (rowOf hs)) := Y1.out.kept r3 (by omega)
                    have Z3 : RowAt w8 (B + 1) 47 256 (fol zs) := Y3.out.kept r3 (by omega)
                    have Z4 : Hid (Below B w w8) := Y4.out.trans (r3.below (by omega) (fun k hk => by omega))
                    have Z5 : Hid (DI hs G zs rs 0 (rowOf hs) f) := DI.start (by rw [← HH.out]; exact r2)
                    have hs8 : Nb + 1 ≤ w8.heap.size := by have := r3.size; omega
                    obtain ⟨mn, HMN⟩ : ∃ mn, Hid (mn = min zs.length 4096) := ⟨_, rfl⟩
                    have hmn1 : min (zs.length : Int) 4096 = (mn : Int) := by rw [HMN.out]; omega
                    have hmn2 : mn ≤ 4096 := by rw [HMN.out]; omega
                    have hmk := make0 mn (by omega)
                    clear Y1 Y2 Y3 Y4 GRD GX GW hlt hi r1 r2 r3
                    go_wp2_with (first | (refine wpList_load_row rfl 47 _ rfl (B + 1) rfl 47 (arrN 256 (fol zs)) (0, 0) _ Z3 Yba.underlying47 rfl (by rw [arrN_size]; exact size47) ?_) | (refine wpList_build52 rfl _ rfl (fol zs) rfl ?_))
                    obtain ⟨W9, hW9⟩ : ∃ W9, W9 = (w8.alloc (.cells (arrN 256 (fol zs)) 52)).alloc (.cells (Array.replicate mn (.int .u8 0)) 5) := ⟨_, rfl⟩
                    rw [← hW9]
                    have hf9 : Fr (fun _ => False) w8 W9 := by rw [hW9]; exact (Fr.alloc _ _ _).trans (Fr.alloc _ _ _)
                    generalize hEE : w8.heap.size = E at *
                    have A1 : Hid (RowAt W9 E 52 256 (mtfL (fol zs) (zs.take 0))) := by
                      have h := (RowAt.new w8 52 256 (fol zs)).alloc (.cells (Array.replicate mn (.int .u8 0)) 5)
                      rw [hEE] at h; rw [hW9]; exact h
                    have A2 : Hid (RowAt W9 (E + 1) 5 mn (fun _ => 0)) := by
                      have h := RowAt.new (w8.alloc (.cells (arrN 256 (fol zs)) 52)) 5 mn (fun _ => 0)
                      rw [show (w8.alloc (.cells (arrN 256 (fol zs)) 52)).heap.size = E + 1 by simp [hEE], ← arr_zeros] at h
                      rw [hW9]
                      exact h
                    have A3 : Hid (RowAt W9 D 5 (H + zs.length) (rowOf hs)) := Z2.out.kept hf9 (fun h => h)
                    have A4 : Hid (VRow W9 Nb 46 256 (fI f)) := Z1.out.kept hf9 (fun h => h)
                    have A5 : Hid (Below B w W9) := Z4.out.trans (hf9.below (by omega) (fun k hk => hk.elim))
                    clear Z1 Z2 Z3 Z4 hW9 hf9 hEE hmk
                    go_loopw [0, 18] (fun sv rv wr => ∃ (o m l : Nat) (ad : Addr) (d f g' : Nat → Int), Hid (o + m = zs.length) ∧ sv = .slice (some ad) m m ∧ (0 < m → ad = ⟨S, o, none⟩) ∧ rv = .slice (some ⟨E + 1, 0, none⟩) l mn ∧ l ≤ mn ∧ RowAt wr E 52 256 (mtfL (fol zs) (zs.take o)) ∧ RowAt wr (E + 1) 5 mn g' ∧ RowAt wr D 5 (H + zs.length) d ∧ VRow wr Nb 46 256 (fI f) ∧ DI hs G zs rs o d f ∧ Below B w wr) (fun sv _ _ => match sv with | .slice _ m _ => m | _ => 0)
                    case atStart =>
                      refine ⟨0, zs.length, 0, ⟨S, 0, none⟩, rowOf hs, f, _, Nat.zero_add _, by rw [HCS.out], fun _ => rfl, rfl, Nat.zero_le _, A1.out, A2.out, A3.out, A4.out, Z5.out, A5.out⟩
                    case round =>
                      obtain ⟨o, m, l, ad, d, f1, g1, hom, rfl, had, rfl, hlm, r1, r2, r3, r4, r5, r6⟩ := hrel
                      obtain ⟨w9, hw9⟩ : ∃ w9, w9 = wr := ⟨_, rfl⟩
                      subst hw9
                      clear A1 A2 A3 A4 A5 Z5
                      by_cases hm : 0 < m
                      · obtain rfl := had hm
                        obtain ⟨kk, HKK⟩ : ∃ kk, Hid (kk = min m 4096) := ⟨_, rfl⟩
                        have hk1 : min (m : Int) 4096 = (kk : Int) := by rw [HKK.out]; omega
                        have hk2 : kk ≤ m := by rw [HKK.out]; omega
                        have hk3 : 0 < kk := by rw [HKK.out]; omega
                        have hk4 : kk ≤ mn := by have := hom.out; rw [HKK.out, HMN.out]; omega
                        have hk5 : (kk : Int) ≤ m := by omega
                        have hk6 : (m : Int) ≤ 9000 := by have := hom.out; omega
                        have hk7 : (0 : Int) < m := by omega
                        obtain ⟨ps, PS⟩ : ∃ ps, Hid (ps = (zs.drop o).take kk) := ⟨_, rfl⟩
                        have PL : ps.length = kk := by have := hom.out; rw [PS.out]; simp; omega
                        have hrdp : Rd w9.drew (some ⟨S, o, none⟩) ps := by
                          intro j hj
                          have := hom.out
                          obtain ⟨x, hx, gx⟩ := HRD.out (o + j) (by omega)
                          obtain rfl := Option.some.inj hx
                          refine ⟨_, rfl, ?_⟩
                          rw [add_eq] at gx ⊢
                          rw [Nat.zero_add] at gx
                          have h := ((Fr.drew (fun _ => False) w9).cell (p := ⟨S, o + j, none⟩) (by have := r6.size; have := HB.out; show S < _; omega) (fun h => h)).trans ((r6.cell (p := ⟨S, o + j, none⟩) hS).trans gx)
                          rw [h, PS.out]
                          congr 2
                          rw [List.getD_eq_getElem?_getD, List.getD_eq_getElem?_getD, List.getElem?_take_of_lt (by omega), List.getElem?_drop]
                        have hbp : ∀ z ∈ ps, 0 ≤ z ∧ z < 256 := by rw [PS.out]; exact (HBY.out.drop o).take kk
                        have hfd := Fr.drew (fun _ => False) w9
                        have key := app_u E 52 (E + 1) mn (mtfL (fol zs) (zs.take o)) g1 (some ⟨S, o, none⟩) m ps w9.drew (r1.kept hfd (fun h => h)) (r2.kept hfd (fun h => h)) (by omega) hrdp (fun x hx => by cases hx; show S ≠ E + 1; omega) (AllIn.mtfL _ (fol_all zs HBY.out) (HBY.out.take o)) hbp (by omega) (by omega) (by omega)
                        rw [PL] at key
                        have R3 : Hid (RowAt w9 D 5 (H + zs.length) d) := r3
                        have R4 : Hid (VRow w9 Nb 46 256 (fI f1)) := r4
                        have R5 : Hid (DI hs G zs rs o d f1) := r5
                        have R6 : Hid (Below B w w9) := r6
                        have hER : E + 1 < w9.heap.size := r2.lt
                        have HOM := hom
                        clear hrdp hbp hfd r1 r2 r3 r4 r5 r6 had hom
                        go_wp2_with fail
                        go_region_held3 (fun w' => True) (trivial)
                          ((go_at_call 17; refine key.mono ?_; rintro e w10 ⟨rfl, p1, ⟨g2, p2, p3⟩, p4⟩))
                        have F4 : Fr (fun k => k = E ∨ k = E + 1) w9 w10 := (Fr.drew _ _).trans p4
                        have Q1 : Hid (RowAt w10 E 52 256 (mtfL (fol zs) (zs.take (o + kk)))) := by
                          rw [piece zs o kk, ← PS.out, mtfL_app]; exact p1
                        have Q2 : Hid (RowAt w10 (E + 1) 5 mn g2) := p2
                        have Q3 : Hid (∀ j, j < kk → g2 j = rs.getD (o + j) 0) := fun j hj => by
                          have := HOM.out
                          rw [p3 j (by omega), PS.out, RS.out, piece_rank (fol zs) zs o kk j (by omega) hj]
                        have Q4 : Hid (RowAt w10 D 5 (H + zs.length) d) := R3.out.kept F4 (by omega)
                        have Q5 : Hid (VRow w10 Nb 46 256 (fI f1)) := R4.out.kept F4 (by omega)
                        have Q6 : Hid (Below B w w10) := R6.out.trans (F4.below (by have := R6.out.size; have := HB.out; omega) (fun k hk => by omega))
                        have hs10 : E + 1 < w10.heap.size := p2.lt
                        clear p1 p2 p3 p4 F4 R3 R4 R6 key
                        go_wp2
                        go_loopw [116] (fun ii wr => ∃ (j : Nat) (d f : Nat → Int), j ≤ kk ∧ ii = .int .i64 (j : Int) ∧ RowAt wr D 5 (H + zs.length) d ∧ VRow wr Nb 46 256 (fI f) ∧ DI hs G zs rs (o + j) d f ∧ Fr (fun k => k = D ∨ k = Nb) w10 wr) (fun ii _ => kk - (intOf ii).toNat)
                        case atStart => exact ⟨0, d, f1, Nat.zero_le _, rfl, Q4.out, Q5.out, R5.out, Fr.refl _ _⟩
                        case round =>
                          obtain ⟨j, d2, f2, hj, rfl, r1, r2, r3, r4⟩ := hrel
                          clear Q4 Q5 R5
                          by_cases hlt : j < kk
                          · have hom := HOM.out
                            obtain ⟨p, q1, q2, q3⟩ := r3.step RL.out HBY.out ORD.out (k := o + j) (by omega)
                            have hzk := HBY.out.get (o + j) (by omega)
                            obtain ⟨x, hx, gx⟩ := HRD.out (o + j) (by omega)
                            obtain rfl := Option.some.inj hx
                            rw [add_eq, Nat.zero_add] at gx
                            have cS : wr.cell? ⟨S, o + j, none⟩ = some (.int .u8 (zs.getD (o + j) 0)) := (r4.cell (p := ⟨S, o + j, none⟩) (show S < w10.heap.size by omega) (show ¬ (S = D ∨ S = Nb) by omega)).trans ((Q6.out.cell (p := ⟨S, o + j, none⟩) hS).trans gx)
                            have cR : wr.cell? ⟨E + 1, j, none⟩ = some (.int .u8 (rs.getD (o + j) 0)) := by
                              rw [← Q3.out j hlt]
                              exact (r4.cell (p := ⟨E + 1, j, none⟩) hs10 (show ¬ (E + 1 = D ∨ E + 1 = Nb) by omega)).trans (Q2.out.cell j (by omega))
                            have cN : wr.cell? ⟨Nb, (zs.getD (o + j) 0).toNat, none⟩ = some (.int .i64 (p : Int)) := by
                              rw [← q1]; exact r2.cell _ (by omega)
                            have fN := r2.frozen (zs.getD (o + j) 0).toNat
                            have hHH := HH.out
                            have cD := r1.cell p (by omega)
                            have fD := r1.frozen p
                            have R1 : Hid (RowAt wr D 5 (H + zs.length) d2) := r1
                            have R2 : Hid (VRow wr Nb 46 256 (fI f2)) := r2
                            have R3 : Hid (DI hs G zs rs (o + j + 1) (upd d2 p (rs.getD (o + j) 0)) (upd f2 (zs.getD (o + j) 0).toNat ((p : Int) + 1))) := q3
                            have R4 : Hid (Fr (fun k => k = D ∨ k = Nb) w10 wr) := r4
                            have hpI : (p : Int) < (H : Int) + zs.length := by omega
                            have hpB : (p : Int) ≤ 20000 := by omega
                            have hjI : (j : Int) < kk := by omega
                            have hDN : D ≠ Nb := by omega
                            generalize zs.getD (o + j) 0 = c at *
                            generalize rs.getD (o + j) 0 = r at *
                            clear r1 r2 r3 r4 q1 q2 q3 gx hx hom hHH
                            go_wp2
                            go_region
                            go_wp2
                            go_roundw
                            case rel =>
                              have hfd := Fr.drew (fun _ => False) ((wr.setCell ⟨D, p, none⟩ (.int .u8 r)).setCell ⟨Nb, c.toNat, none⟩ (.int .i64 ((p : Int) + 1)))
                              refine ⟨j + 1, upd d2 p r, upd f2 c.toNat ((p : Int) + 1), by omega, by go_num, RowAt.kept ?_ hfd (fun h => h), VRow.kept ?_ hfd (fun h => h), R3.out, ?_⟩
                              · exact (R1.out.set p r).far hDN _
                              · exact (R2.out.far (Ne.symm hDN) _).setI _ _
                              · exact ((R4.out.trans (Fr.setCell (R := fun k => k = D ∨ k = Nb) _ (Or.inl rfl) _)).trans (Fr.setCell (R := fun k => k = D ∨ k = Nb) _ (Or.inr rfl) _)).trans (Fr.drew _ _)
                            case measure => simp [intOf]; omega
                          · obtain rfl : kk = j := by omega
                            have R1 : Hid (RowAt wr D 5 (H + zs.length) d2) := r1
                            have R2 : Hid (VRow wr Nb 46 256 (fI f2)) := r2
                            have R3 : Hid (DI hs G zs rs (o + kk) d2 f2) := r3
                            have R4 : Hid (Fr (fun k => k = D ∨ k = Nb) w10 wr) := r4
                            clear r1 r2 r3 r4
                            go_wp2
                            go_roundw
                            case rel =>
                              have hom := HOM.out
                              refine ⟨o + kk, m - kk, kk, if m = kk then ⟨S, o, none⟩ else ⟨S, o + kk, none⟩, d2, f2, g2, show o + kk + (m - kk) = zs.length by omega, ?_, ?_, rfl, hk4, Q1.out.kept R4.out (by omega), Q2.out.kept R4.out (by omega), R1.out, R2.out, R3.out, Q6.out.trans (R4.out.below (by have := Q6.out.size; have := HB.out; omega) (fun k hk => by omega))⟩
                              · by_cases e : m = kk <;> simp [e]
                              · intro h; rw [if_neg (by omega)]
                            case measure => show m - kk < m; omega
                      · obtain rfl : m = 0 := by omega
                        have ho : o = zs.length := hom.out
                        subst ho
                        have hlen := spec_len zs G HBY.out ORD.out
                        rw [← HS.out, ← HH.out] at hlen
                        have hrd : Rd w9 (some ⟨D, 0, none⟩) (spec zs G) := by
                          intro j hj
                          refine ⟨_, rfl, ?_⟩
                          rw [add_eq, Nat.zero_add, r3.cell j (by omega), r5.done RL.out HBY.out ORD.out j (by have := HH.out; omega)]
                          unfold spec
                          rw [← HS.out, ← RS.out]
                        have HP : Hid (SrtPost zs w (.returned (.slice (some ⟨D, 0, none⟩) (H + zs.length) (H + zs.length))) w9) :=
                          ⟨G, D, ORD.out, by rw [hlen], hrd, by rw [HB.out]; exact r6, by have := HB.out; omega, r3.lt⟩
                        clear hrd r1 r2 r3 r4 r5 r6 hlen
                        go_wp2
                        go_ret
                        exact HP.out
end Go.Proofs.Ybulkcmdi
