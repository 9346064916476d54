import Derived.Test.YbulkcmdiFin
import Derived.Deep.RegionLaw
import Derived.Deep.OwnRows
import Derived.Deep.RegionHeld3
import Derived.Deep.RegionHeldLaw
namespace Go.Proofs.Ybulkcmdi
open Go.RowKit
set_option linter.unusedVariables false
set_option linter.unusedSimpArgs false

theorem Fr.drew (R : Nat → Prop) (w : World) : Fr R w w.drew := ⟨rfl, rfl, rfl, Nat.le_refl _, fun _ _ _ => rfl⟩
theorem Fr.setRow (w : World) (g : Nat) (cs : Array Value) : Fr (fun k => k = g) w (w.setRow g cs) := ⟨rfl, rfl, rfl, by simp [World.setRow], fun k _ hk => setRow_other w g k cs hk⟩

theorem step_copy_fr {P : Program} {ops : Array Oper} {o : Oper} {a : Act} {w : World} {K : Act → World → Prop} {Q : Exit → Act → World → Prop} {E : Prop} (hgd : o.guard = none) (d s : Operand) (dT sT : TypeId)
    (ho : o.op = .call { callee := .builtin .copy, args := #[d, s], argTypes := #[dT, sT] }) (elem : TypeId) (hu : P.underlying dT = some (.slice elem)) (hsz : (P.info? elem).map (·.size) = some 1)
    (dp sp : Option Addr) (dLen dCap sLen sCap : Nat) (hd : a.eval d = .slice dp dLen dCap) (hs : a.eval s = .slice sp sLen sCap)
    (g off : Nat) (cur : List Value) (t : TypeId) (hg : w.heap[g]? = some (.cells cur.toArray t (0, 0))) (cs : List Value) (hn : cs.length = Nat.min sLen dLen)
    (hpos : 0 < cs.length → dp = some ⟨g, off, none⟩ ∧ ∃ ad, sp = some ad ∧ ∀ j v, cs[j]? = some v → w.cell? (ad.add j) = some v)
    (hfit : off + cs.length ≤ cur.length) (h1 : ∀ v ∈ cs, v.oneCell' = true)
    (h : ∀ w', Hid (w'.heap[g]? = some (.cells (splice cur off cs).toArray t (0, 0))) → Fr (fun k => k = g) w w' → K (a.put o.dst (goInt cs.length)) w') :
    if Region.wanted o (yielded ops a.tmps) = true then Oper.wp P o a w K Q else E := by
  have hw : Region.wanted o (yielded ops a.tmps) = true := by simp [Region.wanted, hgd]
  rw [if_pos hw]
  by_cases h0 : cs.length = 0
  · obtain rfl : cs = [] := List.eq_nil_of_length_eq_zero h0
    have hrun := run_copy_none (P := P) w dT sT o.type elem dp sp dLen dCap sLen sCap hu hsz (by simpa using hn.symm)
    unfold Oper.wp
    simp [execOp, ho, resolve, invoke, builtin, hd, hs, hrun, Result.andThen]
    exact h w (show _ = _ by simpa [splice] using hg) (Fr.refl _ _)
  · obtain ⟨rfl, ad, rfl, hsrc⟩ := hpos (by omega)
    have hrun := run_copy_row (P := P) w dT sT o.type elem g off dLen dCap ad sLen sCap cur.toArray t cs hu hsz hg hn hsrc (by simpa using hfit) h1
    unfold Oper.wp
    simp [execOp, ho, resolve, invoke, builtin, hd, hs, hrun, Result.andThen]
    exact h _ (show _ = _ by simpa [splice] using setRow_heap w g _ _ t _ hg) (Fr.setRow _ _ _)

theorem putuv_v (N : Nat) (x kk : Nat) (X : Int) (w : World) (hX : (x : Int) = X) (hk : (uv 9 x).length = kk) (hx : x < 18446744073709551616) (hc : Arr w N (List.replicate 10 0)) (hN : N < w.heap.size) :
    Calls Yba.prog 20 #[.slice (some ⟨N, 0, none⟩) 10 10, .int .u64 X] w fun e w' => e = .returned (.int .i64 (kk : Int)) ∧ w.grownBy w' (some N) ∧ ∀ j, j < kk → w'.cell? ⟨N, j, none⟩ = some (.int .u8 ((uv 9 x).getD j 0)) := by
  subst hX hk
  refine (putuv_u N x w hx hc hN).mono ?_
  rintro e w' ⟨rfl, hg, L, hL, hA, ht⟩
  refine ⟨rfl, hg, fun j hj => ?_⟩
  have hle := (uv_len 9 x).2
  rw [(hA j (by omega)).1, ← ht]
  simp [List.getElem?_take, hj]

theorem arr_new (w : World) : Arr (w.alloc (.cells #[.int .u8 0, .int .u8 0, .int .u8 0, .int .u8 0, .int .u8 0, .int .u8 0, .int .u8 0, .int .u8 0, .int .u8 0, .int .u8 0] 58)) w.heap.size (List.replicate 10 0) := by
  intro j hj
  have hj' : j < 10 := by simpa using hj
  refine ⟨?_, World.frozen?_alloc_new _ _ _ _⟩
  rw [World.cell?_alloc_new]
  rcases (by omega : j = 0 ∨ j = 1 ∨ j = 2 ∨ j = 3 ∨ j = 4 ∨ j = 5 ∨ j = 6 ∨ j = 7 ∨ j = 8 ∨ j = 9) with rfl | rfl | rfl | rfl | rfl | rfl | rfl | rfl | rfl | rfl <;> rfl

theorem splice_take (L : List Value) (n1 fr e : Nat) (zs us : List Int) (hL : L.take n1 = zs.map (Value.int .u8)) (hzl : zs.length = n1) (hfr : fr + us.length = e) (he : e ≤ n1) (hn : n1 ≤ L.length) :
    (splice L fr (us.map (Value.int .u8))).take n1 = (zs.take fr ++ us ++ zs.drop e).map (Value.int .u8) := by
  have h1 : L.take fr = (zs.take fr).map (Value.int .u8) := by
    rw [List.map_take, ← hL, List.take_take, Nat.min_eq_left (by omega)]
  have h2 : (L.drop e).take (n1 - e) = (zs.drop e).map (Value.int .u8) := by
    rw [List.map_drop, ← hL, List.drop_take]
  have hl1 : (zs.take fr).length = fr := by simp; omega
  unfold splice
  rw [List.length_map, hfr, h1, List.take_append, List.take_append]
  simp only [List.length_map, hl1, List.map_append]
  have k1 : ((zs.take fr).map (Value.int .u8)).take n1 = (zs.take fr).map (Value.int .u8) := List.take_of_length_le (by simp only [List.length_map, hl1]; omega)
  have k2 : (us.map (Value.int .u8)).take (n1 - fr) = us.map (Value.int .u8) := List.take_of_length_le (by simp only [List.length_map]; omega)
  rw [k1, k2, show n1 - fr - us.length = n1 - e by omega, h2, List.append_assoc]

theorem row_cells {w : World} {g : Nat} {L : List Value} {zs : List Int} {n : Nat} (h : w.heap[g]? = some (.cells L.toArray 5 (0, 0))) (hL : L.take n = zs.map (Value.int .u8)) (j : Nat) (hj : j < zs.length) (hn : zs.length ≤ n) : w.cell? ⟨g, j, none⟩ = some (.int .u8 (zs.getD j 0)) := by
  have e : L[j]? = some (.int .u8 (zs.getD j 0)) := by
    have : (L.take n)[j]? = some (.int .u8 (zs.getD j 0)) := by rw [hL]; simp [hj]
    rwa [List.getElem?_take_of_lt (by omega)] at this
  simp [World.cell?, h, e]

/-- What Finish leaves: a slice of bytes R in rows of the call's own; the encoder anew; nothing else of old turned but rows of bytes of the call's own. -/
def FinPost (C T base : Nat) (w : World) (R : List Int) (e : Ending) (w' : World) : Prop :=
  ∃ (y : Addr) (n cap : Nat), e = .returned (.slice (some y) n cap) ∧ n = R.length ∧ Rd w' (some y) R ∧ (base ≤ y.block ∧ y.block < w'.heap.size) ∧ Fr (fun k => k = C ∨ (base ≤ k ∧ TypAt w k 5)) w w' ∧ TypAt w' C T ∧
      (w'.cell? ⟨C, 0, none⟩ = some (.int .u32 0) ∧ w'.cell? ⟨C, 1, none⟩ = some (.int .u32 4294967295) ∧ w'.cell? ⟨C, 2, none⟩ = some (.slice none 0 0))

theorem fin_post (C T base g off : Nat) (w w' : World) (R : List Int) (n cap : Nat) (hn : n = R.length) (hc : ∀ j, j < R.length → w'.cell? ⟨g, off + j, none⟩ = some (.int .u8 (R.getD j 0))) (hg : base ≤ g) (hgl : g < w'.heap.size)
    (hF : Fr (fun k => k = C ∨ (base ≤ k ∧ TypAt w k 5)) w w') (hT : TypAt w' C T) (c0 : w'.cell? ⟨C, 0, none⟩ = some (.int .u32 0)) (c1 : w'.cell? ⟨C, 1, none⟩ = some (.int .u32 4294967295)) (c2 : w'.cell? ⟨C, 2, none⟩ = some (.slice none 0 0)) :
    FinPost C T base w R (.returned (.slice (some ⟨g, off, none⟩) n cap)) w' :=
  ⟨_, _, _, rfl, hn, fun j hj => ⟨_, rfl, by rw [add_eq]; exact hc j hj⟩, ⟨hg, hgl⟩, hF, hT, c0, c1, c2⟩

/-- The first copy: the count in front of the code. -/
theorem getD_mid (zs us : List Int) (fr e j : Nat) (hfr : fr ≤ zs.length) (hj : j < (us ++ zs.drop e).length) : (zs.take fr ++ us ++ zs.drop e).getD (fr + j) 0 = (us ++ zs.drop e).getD j 0 := by
  have hl : (zs.take fr).length = fr := by simp; omega
  rw [List.append_assoc]
  simp only [List.getD_eq_getElem?_getD]
  rw [List.getElem?_append_right (by omega), hl, Nat.add_sub_cancel_left]
theorem getD_front (A B : List Int) (j : Nat) (hj : j < A.length) : (A ++ B).getD j 0 = A.getD j 0 := by
  simp only [List.getD_eq_getElem?_getD]
  rw [List.getElem?_append_left hj]

set_option maxHeartbeats 1600000 in
set_option maxRecDepth 20000 in
theorem finish_u (C T base : Nat) (v : Value) (ds pad code : List Int) (s x : Nat) (top low high : Int) (w : World) (h0 : 0 ≤ top) (h1 : top ≤ 255) (hlow : low = top * 16777216) (hx : x < 18446744073709551616)
    (hC : TypAt w C T) (hT : T ≠ 5) (c0 : w.cell? ⟨C, 0, none⟩ = some (.int .u32 low)) (c1 : w.cell? ⟨C, 1, none⟩ = some (.int .u32 high)) (c2 : w.cell? ⟨C, 2, none⟩ = some v)
    (c4 : w.cell? ⟨C, 4, none⟩ = some (.int .i64 (s : Int))) (X : Int) (hX : (x : Int) = X) (c5 : w.cell? ⟨C, 5, none⟩ = some (.int .u64 X))
    (hown : Own w base v (ds ++ pad ++ code)) (hs : ds.length = s) (hp : pad.length = 10) (hl : ds.length + code.length ≤ 50000) (hbase : base ≤ w.heap.size) (R : List Int) (hR : R = ds ++ uv 9 x ++ (code ++ if top = 0 then [] else [top])) :
    Calls Yba.prog 12 #[.pointer (some ⟨C, 0, none⟩)] w fun e w' => FinPost C T base w R e w' := by
  have key := encfin_u C T base v _ top low high w h0 h1 hlow hC hT c0 c1 c2 hown (by simp; omega) hbase
  obtain ⟨zs1, hz1⟩ : ∃ zs1, zs1 = ds ++ pad ++ code ++ if top = 0 then [] else [top] := ⟨_, rfl⟩
  rw [← hz1] at key
  have hR2 : R = zs1.take s ++ uv 9 x ++ zs1.drop (s + 10) := by
    have e1 : zs1.take s = ds := by rw [hz1, List.append_assoc, List.append_assoc, ← hs, List.take_left']; rfl
    have e2 : zs1.drop (s + 10) = code ++ if top = 0 then [] else [top] := by
      rw [hz1, List.append_assoc, List.drop_left']
      simp; omega
    rw [e1, e2]; exact hR
  have hn1 : s + 10 + code.length ≤ zs1.length ∧ zs1.length ≤ s + 11 + code.length := by rw [hz1]; split <;> simp <;> omega
  obtain ⟨kk, hkk⟩ : ∃ kk, (uv 9 x).length = kk := ⟨_, rfl⟩
  have hk := uv_len 9 x
  rw [hkk] at hk
  obtain ⟨fr, hfr⟩ : ∃ fr : Nat, (s : Int) + 10 - kk = fr := ⟨s + 10 - kk, by omega⟩
  have HX : Hid ((x : Int) = X) := hX
  have HKK : Hid ((uv 9 x).length = kk) := hkk
  have HXL : Hid (x < 18446744073709551616) := hx
  have HZ1 : Hid (zs1 = ds ++ pad ++ code ++ if top = 0 then [] else [top]) := hz1
  have HR2 := (show Hid _ from hR2)
  clear hz1 hkk hx hX hlow hR2 hR
  go_enter Yba.func12, Yba.ntmps12
  go_wp2_with fail
  refine key.mono ?_
  clear key
  rintro e w1 ⟨v1, rfl, o1, f1, t1, ⟨d0, d1, d2⟩, hsame⟩
  have d4 := (hsame 4 (by omega)).trans c4
  have d5 := (hsame 5 (by omega)).trans c5
  have hCl := t1.lt
  obtain ⟨g, cap1, L, rfl, hg, hLc, hL1, hcap, hLt⟩ : ∃ (g cap : Nat) (L : List Value), v1 = .slice (some ⟨g, 0, none⟩) zs1.length cap ∧ base ≤ g ∧ w1.heap[g]? = some (.cells L.toArray 5 (0, 0)) ∧ L.length = cap ∧ zs1.length ≤ cap ∧ L.take zs1.length = zs1.map (Value.int .u8) := by
    obtain ⟨hlen, ⟨_, h⟩ | ⟨g, cap, cur, rfl, hb, hh, hle, hm, hsz, ht⟩⟩ := o1
    · exfalso; omega
    · exact ⟨g, cap, cur.toList, rfl, hb, by simpa using hh, by simpa using hsz, hle, by simpa using ht⟩
  have hgC : g ≠ C := by
    have := o1.ne t1 hT
    intro e; exact this (by simp [Value.ownBlock, e])
  have hgl : g < w1.heap.size := (Array.getElem?_eq_some_iff.1 hLc).1
  have hRg : ∀ k, k < w.heap.size → (k = C ∨ k = g ∨ k = w1.heap.size ∨ v.ownBlock = some k) → (k = C ∨ (base ≤ k ∧ TypAt w k 5)) := by
    have hv : ∀ k, v.ownBlock = some k → base ≤ k ∧ TypAt w k 5 := by
      intro k hk
      obtain ⟨_, ⟨rfl, _⟩ | ⟨g', cap', cur', rfl, hb', hh', _⟩⟩ := hown
      · cases hk
      · simp [Value.ownBlock] at hk; subst hk; exact ⟨hb', _, hh'⟩
    intro k hk h
    rcases h with h | rfl | rfl | h
    · exact .inl h
    · refine .inr ⟨hg, ?_⟩
      by_cases hvk : v.ownBlock = some k
      · exact (hv k hvk).2
      · exact ⟨_, (f1.block k hk (by rintro (h | h); exact hgC h; exact hvk h)).symm.trans hLc⟩
    · have := f1.size; omega
    · exact .inr (hv k h)
  have HRG := (show Hid _ from hRg)
  clear c0 c1 c2 c4 c5 hC hown hsame o1 hRg
  go_wp2_with fail
  obtain ⟨w2, hw2⟩ : ∃ w2, w2 = w1.alloc (.cells #[.int .u8 0, .int .u8 0, .int .u8 0, .int .u8 0, .int .u8 0, .int .u8 0, .int .u8 0, .int .u8 0, .int .u8 0, .int .u8 0] 58) := ⟨_, rfl⟩
  rw [← hw2]
  have f2 : Fr (fun _ => False) w1 w2 := by rw [hw2]; exact Fr.alloc _ _ _
  have a2 : Arr w2 w1.heap.size (List.replicate 10 0) := by rw [hw2]; exact arr_new w1
  have s2 : w2.heap.size = w1.heap.size + 1 := by rw [hw2]; simp
  have e5 : w2.cell? ⟨C, 5, none⟩ = some (.int .u64 X) := (f2.cell (p := ⟨C, 5, none⟩) hCl (fun h => h)).trans d5
  clear hw2
  go_region_held3 (fun w' => w'.cell? ⟨C, 5, none⟩ = some (.int .u64 X)) (assumption)
    ((go_at_call 20; refine (putuv_v w1.heap.size x kk X _ HX.out HKK.out HXL.out (by exact a2) (by simp [s2])).mono ?_; rintro e w3 ⟨rfl, hg3, hrd3⟩; have k5 : w3.cell? ⟨C, 5, none⟩ = some (.int .u64 X) := hg3.cell (a := ⟨C, 5, none⟩) e5 (by simp; omega)))
  have f3 : Fr (fun k => k = w1.heap.size) w2 w3 := (Fr.drew _ _).trans ((Fr.grown hg3).mono (fun k _ h => by simpa using h.symm))
  have k4 : w3.cell? ⟨C, 4, none⟩ = some (.int .i64 (s : Int)) := ((f3.cell (p := ⟨C, 4, none⟩) (show C < w2.heap.size by omega) (show ¬ (C = w1.heap.size) by omega)).trans (f2.cell (p := ⟨C, 4, none⟩) hCl (fun h => h))).trans d4
  have hL3 : w3.heap[g]? = some (.cells L.toArray 5 (0, 0)) := ((f3.block g (by omega) (by show ¬ (g = w1.heap.size); omega)).trans (f2.block g hgl (fun h => h))).trans hLc
  have hz1l : zs1.length = zs1.length := rfl
  obtain ⟨us, hus⟩ : ∃ us, us = uv 9 x := ⟨_, rfl⟩
  have hul : us.length = kk := by rw [hus]; exact HKK.out
  have hone : ∀ (l : List Int) (v : Value), v ∈ l.map (Value.int .u8) → v.oneCell' = true := by
    intro l v hv
    obtain ⟨a, _, rfl⟩ := List.mem_map.1 hv
    rfl
  have hsp := splice_take L zs1.length fr (s + 10) zs1 us hLt rfl (by omega) (by omega) (by omega)
  have hpos1 : ∀ j v, (us.map (Value.int .u8))[j]? = some v → w3.drew.cell? ((⟨w1.heap.size, 0, none⟩ : Addr).add j) = some v := by
    intro j v hv
    have hj : j < us.length := by have := (List.getElem?_eq_some_iff.1 hv).1; simpa using this
    rw [add_eq, Nat.zero_add]
    refine (hrd3 j (by omega)).trans ?_
    rw [← hus]
    simp [hj] at hv ⊢
    exact hv
  have hn1' : (us.map (Value.int .u8)).length = Nat.min kk (zs1.length - fr) := by rw [List.length_map, hul]; exact (Nat.min_eq_left (by omega)).symm
  have hfit1 : fr + (us.map (Value.int .u8)).length ≤ L.length := by simp; omega
  have q1 : (fr : Int) ≤ zs1.length := by omega
  have q2 : ¬ (cap1 = fr) := by omega
  have q3 : (kk : Int) ≤ 10 := by omega
  have q4 : (s : Int) ≤ zs1.length := by omega
  have q5 : ¬ (cap1 = s) := by omega
  have HS := (show Hid _ from hsp)
  have HP := (show Hid _ from hpos1)
  have HH := (show Hid _ from hn1')
  have HU : Hid (us = uv 9 x) := hus
  have HUL : Hid (us.length = kk) := hul
  have HF1 := (show Hid _ from hfit1)
  have HL3 := (show Hid _ from hL3)
  have HON := (show Hid _ from hone)
  have HLT := (show Hid _ from hLt)
  clear hsp hpos1 hn1' hus hul hfit1 hL3 hone hrd3 hLc hLt
  go_wp2_with fail
  go_region_held_law (fun w' => True) (trivial)
    ((refine step_copy_fr rfl (.tmp 27) (.tmp 29) 22 22 rfl 5 Yba.underlying22 Yba.size5 (some ⟨g, fr, none⟩) (some ⟨w1.heap.size, 0, none⟩) (zs1.length - fr) (cap1 - fr) kk 10 rfl rfl g fr L 5 (by exact HL3.out) (us.map (Value.int .u8)) HH.out (fun _ => ⟨rfl, _, rfl, HP.out⟩) HF1.out (HON.out us) ?_; intro w4 hg4 f4))
  have f4' : Fr (fun k => k = g) w3 w4 := (Fr.drew _ _).trans f4
  have m4 : w4.cell? ⟨C, 4, none⟩ = some (.int .i64 (s : Int)) := (f4'.cell (p := ⟨C, 4, none⟩) (show C < w3.heap.size by have := f3.size; omega) (Ne.symm hgC)).trans k4
  have s4 : w3.heap.size ≤ w4.heap.size := f4'.size
  have s3 : w2.heap.size ≤ w3.heap.size := f3.size
  have s2' : w1.heap.size < w4.heap.size := by omega
  have hZ2l : (zs1.take fr ++ us ++ zs1.drop (s + 10)).length = zs1.length := by have := HUL.out; simp; omega
  have hus2 : (us ++ zs1.drop (s + 10)).length = zs1.length - fr := by have := HUL.out; simp; omega
  obtain ⟨us2, hu2⟩ : ∃ us2, us2 = us ++ zs1.drop (s + 10) := ⟨_, rfl⟩
  rw [← hu2] at hus2
  have hRl : R.length = s + us2.length := by rw [HR2.out, ← HU.out, hu2]; simp; omega
  have hLl : (splice L fr (us.map (Value.int .u8))).length = cap1 := by rw [length_splice _ _ _ HF1.out]; exact hL1
  obtain ⟨L4, hL4⟩ : ∃ L4, L4 = splice L fr (us.map (Value.int .u8)) := ⟨_, rfl⟩
  rw [← hL4] at hLl
  have hrow4 : w4.heap[g]? = some (.cells L4.toArray 5 (0, 0)) := by rw [hL4]; exact hg4.out
  have hL4t : L4.take zs1.length = (zs1.take fr ++ us ++ zs1.drop (s + 10)).map (Value.int .u8) := by rw [hL4]; exact HS.out
  have fA : Fr (fun k => k = C ∨ k = g ∨ k = w1.heap.size ∨ v.ownBlock = some k) w w4 :=
    (f1.mono (fun k _ h => by rcases h with h | h; exact .inl h; exact .inr (.inr (.inr h)))).trans ((f2.mono (fun k _ h => h.elim)).trans ((f3.mono (fun k _ h => .inr (.inr (.inl h)))).trans (f4'.mono (fun k _ h => .inr (.inl h)))))
  have tA : TypAt w4 C T := ((t1.fr f2 (fun h => h)).fr f3 (show ¬ (C = w1.heap.size) by omega)).fr f4' (Ne.symm hgC)
  have cA : ∀ o, w4.cell? ⟨C, o, none⟩ = w1.cell? ⟨C, o, none⟩ := fun o =>
    ((f4'.cell (p := ⟨C, o, none⟩) (show C < w3.heap.size by omega) (Ne.symm hgC)).trans (f3.cell (p := ⟨C, o, none⟩) (show C < w2.heap.size by omega) (show ¬ (C = w1.heap.size) by omega))).trans (f2.cell (p := ⟨C, o, none⟩) hCl (fun h => h))
  by_cases hs0 : s = 0
  · have hse : ((s : Int) == 0) = true := by simp [hs0]
    have hfin : FinPost C T base w R (.returned (.slice (some ⟨g, fr, none⟩) (zs1.length - fr) (cap1 - fr))) w4 := by
      refine fin_post C T base g fr w w4 R _ _ (by omega) (fun j hj => ?_) hg (by omega) (fA.mono HRG.out) tA ((cA 0).trans d0) ((cA 1).trans d1) ((cA 2).trans d2)
      rw [row_cells hrow4 hL4t (fr + j) (by omega) (by omega), getD_mid zs1 us fr (s + 10) j (by omega) (by rw [← hu2]; omega), HR2.out, ← HU.out, hs0]
      simp
    have HFIN := (show Hid _ from hfin)
    clear hfin fA tA cA hrow4 hL4t hL4 hRl hLl hZ2l hus2 hs0
    go_wp2
    go_ret
    exact HFIN.out
  · have hse : ((s : Int) == 0) = false := by simp [hs0]
    have HS0 : Hid (¬ s = 0) := hs0
    have hpos2 : ∀ j v, (us2.map (Value.int .u8))[j]? = some v → w4.drew.cell? ((⟨g, fr, none⟩ : Addr).add j) = some v := by
      intro j v hv
      have hj : j < us2.length := by have := (List.getElem?_eq_some_iff.1 hv).1; simpa using this
      rw [add_eq]
      refine (row_cells hrow4 hL4t (fr + j) (by omega) (by omega)).trans ?_
      rw [getD_mid zs1 us fr (s + 10) j (by omega) (by rw [← hu2]; exact hj), ← hu2]
      simp [hj] at hv ⊢
      exact hv
    have hn2' : (us2.map (Value.int .u8)).length = Nat.min (zs1.length - fr) (zs1.length - s) := by rw [List.length_map, hus2]; exact (Nat.min_eq_left (by omega)).symm
    have hfit2 : s + (us2.map (Value.int .u8)).length ≤ L4.length := by rw [List.length_map, hus2]; omega
    have hsp2 := splice_take L4 zs1.length s (s + us2.length) _ us2 hL4t hZ2l rfl (by omega) (by omega)
    have hRf : ∀ j, j < R.length → ((zs1.take fr ++ us ++ zs1.drop (s + 10)).take s ++ us2 ++ (zs1.take fr ++ us ++ zs1.drop (s + 10)).drop (s + us2.length)).getD j 0 = R.getD j 0 := by
      have e1 : (zs1.take fr ++ us ++ zs1.drop (s + 10)).take s = zs1.take s := by
        rw [List.append_assoc, List.take_append_of_le_length (by simp; omega), List.take_take, Nat.min_eq_left (by omega)]
      have e2 : zs1.take s ++ us2 = R := by rw [hu2, HR2.out, ← HU.out]; simp
      intro j hj
      rw [e1, e2]
      exact getD_front _ _ _ hj
    have hRl2 : ((zs1.take fr ++ us ++ zs1.drop (s + 10)).take s ++ us2 ++ (zs1.take fr ++ us ++ zs1.drop (s + 10)).drop (s + us2.length)).length = zs1.length := by
      have := hZ2l
      simp only [List.length_append, List.length_take, List.length_drop] at this ⊢
      omega
    have e7 : ((s : Int) + us2.length) ≤ cap1 := by omega
    have e8 : ((s : Int) + us2.length) ≤ zs1.length := by omega
    have HP2 := (show Hid _ from hpos2)
    have HN2 := (show Hid _ from hn2')
    have HFT2 := (show Hid _ from hfit2)
    have HSP2 := (show Hid _ from hsp2)
    have HRF := (show Hid _ from hRf)
    have HRL2 := (show Hid _ from hRl2)
    have HROW := (show Hid _ from hrow4)
    have HFA := (show Hid _ from fA)
    have HTA : Hid (TypAt w4 C T) := tA
    have HCA := (show Hid _ from cA)
    have HU2 := (show Hid _ from hus2)
    clear hs0 hpos2 hn2' hfit2 hsp2 hRf hRl2 hrow4 fA tA cA hL4t hL4 hu2 hZ2l hg4
    go_wp2
    go_region_held_law (fun w' => w'.cell? ⟨C, 4, none⟩ = some (.int .i64 (s : Int))) (assumption)
      ((refine step_copy_fr rfl (.tmp 44) (.tmp 47) 22 22 rfl 5 Yba.underlying22 Yba.size5 (some ⟨g, s, none⟩) (some ⟨g, fr, none⟩) (zs1.length - s) (cap1 - s) (zs1.length - fr) (cap1 - fr) rfl rfl g s L4 5 (by exact HROW.out) (us2.map (Value.int .u8)) HN2.out (fun _ => ⟨rfl, _, rfl, HP2.out⟩) HFT2.out (HON.out us2) ?_; intro w5 hg5 f5; have m5 : w5.cell? ⟨C, 4, none⟩ = some (.int .i64 (s : Int)) := (f5.cell (p := ⟨C, 4, none⟩) (show C < w4.heap.size by omega) (Ne.symm hgC)).trans m4))
    have f5' : Fr (fun k => k = g) w4 w5 := (Fr.drew _ _).trans f5
    have s5 : w4.heap.size ≤ w5.heap.size := f5'.size
    have hfin : ∀ nn cc, nn = s + us2.length → FinPost C T base w R (.returned (.slice (some ⟨g, 0, none⟩) nn cc)) w5 := by
      rintro nn cc rfl
      refine fin_post C T base g 0 w w5 R _ _ hRl.symm (fun j hj => ?_) hg (by omega) ((HFA.out.trans (f5'.mono (fun k _ h => .inr (.inl h)))).mono HRG.out) ((show TypAt w4 C T from HTA.out).fr f5' (Ne.symm hgC)) ?_ ?_ ?_
      · have hu2 := HU2.out
        rw [Nat.zero_add, row_cells hg5.out HSP2.out j (by rw [HRL2.out]; omega) (by rw [HRL2.out]; exact Nat.le_refl _), HRF.out j hj]
      · exact ((f5'.cell (p := ⟨C, 0, none⟩) (show C < w4.heap.size by omega) (Ne.symm hgC)).trans (HCA.out 0)).trans d0
      · exact ((f5'.cell (p := ⟨C, 1, none⟩) (show C < w4.heap.size by omega) (Ne.symm hgC)).trans (HCA.out 1)).trans d1
      · exact ((f5'.cell (p := ⟨C, 2, none⟩) (show C < w4.heap.size by omega) (Ne.symm hgC)).trans (HCA.out 2)).trans d2
    have HFIN := (show Hid _ from hfin)
    clear hfin hg5 f5 f5'
    go_wp2
    go_ret
    exact HFIN.out _ _ (by rw [HU2.out])
end Go.Proofs.Ybulkcmdi
