import Derived.Test.YbulkcmdiApp
namespace Go.Proofs.Ybulkcmdi
open Go.RowKit
set_option linter.unusedVariables false
set_option linter.unusedSimpArgs false

def Bytes (zs : List Int) : Prop := ∀ z ∈ zs, 0 ≤ z ∧ z < 256
theorem Bytes.get {zs : List Int} (h : Bytes zs) (k : Nat) (hk : k < zs.length) : 0 ≤ zs.getD k 0 ∧ zs.getD k 0 < 256 := h _ (by simp [hk])
theorem Bytes.take {zs : List Int} (h : Bytes zs) (k : Nat) : Bytes (zs.take k) := fun z hz => h z (List.mem_of_mem_take hz)
theorem Bytes.drop {zs : List Int} (h : Bytes zs) (k : Nat) : Bytes (zs.drop k) := fun z hz => h z (List.mem_of_mem_drop hz)

/-! The values in the order in which they first occur. -/
def ins (acc : List Int) (c : Int) : List Int := if c ∈ acc then acc else acc ++ [c]
def fo (ps : List Int) : List Int := ps.foldl ins []
theorem fo_snoc (ps : List Int) (c : Int) : fo (ps ++ [c]) = ins (fo ps) c := by simp [fo, List.foldl_append]
theorem ins_mem (acc : List Int) (c x : Int) : x ∈ ins acc c ↔ x ∈ acc ∨ x = c := by
  unfold ins; split
  · rename_i h
    exact ⟨Or.inl, fun h' => h'.elim id (fun e => e ▸ h)⟩
  · simp
theorem foldl_ins_mem (x : Int) : ∀ (ps acc : List Int), x ∈ ps.foldl ins acc ↔ x ∈ acc ∨ x ∈ ps
  | [], acc => by simp
  | c :: ps, acc => by
    rw [List.foldl_cons, foldl_ins_mem x ps (ins acc c), ins_mem, List.mem_cons, or_assoc]
theorem fo_mem (ps : List Int) (x : Int) : x ∈ fo ps ↔ x ∈ ps := by unfold fo; rw [foldl_ins_mem]; simp
theorem foldl_ins_nodup : ∀ (ps acc : List Int), acc.Nodup → (ps.foldl ins acc).Nodup
  | [], acc, h => h
  | c :: ps, acc, h => by
    rw [List.foldl_cons]
    apply foldl_ins_nodup ps
    unfold ins; split
    · exact h
    · rename_i hc
      rw [List.nodup_append]
      refine ⟨h, by simp, fun a ha b hb => ?_⟩
      rw [List.mem_singleton.1 hb]
      intro e; exact hc (e ▸ ha)
theorem fo_nodup (ps : List Int) : (fo ps).Nodup := foldl_ins_nodup ps [] List.nodup_nil
theorem nodup_len : ∀ (l m : List Int), l.Nodup → (∀ x ∈ l, x ∈ m) → l.length ≤ m.length
  | [], m, _, _ => by simp
  | a :: t, m, hn, hs => by
    have ha : a ∈ m := hs a (by simp)
    rw [List.nodup_cons] at hn
    have h1 := nodup_len t (m.erase a) hn.2 (fun x hx => (List.mem_erase_of_ne (fun e : x = a => hn.1 (e ▸ hx))).2 (hs x (by simp [hx])))
    rw [List.length_erase_of_mem ha] at h1
    have : 0 < m.length := List.length_pos_of_mem ha
    simp only [List.length_cons]; omega
def r256 (v : Nat) : List Int := (List.range v).map (fun i : Nat => (i : Int))
theorem r256_len (v : Nat) : (r256 v).length = v := by simp [r256]
theorem r256_succ (v : Nat) : r256 (v + 1) = r256 v ++ [(v : Int)] := by simp [r256, List.range_succ]
theorem r256_mem (v : Nat) (x : Int) : x ∈ r256 v ↔ 0 ≤ x ∧ x < v := by
  unfold r256
  simp only [List.mem_map, List.mem_range]
  constructor
  · rintro ⟨i, hi, rfl⟩; omega
  · intro h; exact ⟨x.toNat, by omega, by omega⟩
theorem fo_len (ps : List Int) (h : Bytes ps) : (fo ps).length ≤ 256 := by
  have := nodup_len (fo ps) (r256 256) (fo_nodup ps) (fun x hx => (r256_mem 256 x).2 (h x ((fo_mem ps x).1 hx)))
  rwa [r256_len] at this
theorem fo_room (ps : List Int) (h : Bytes ps) (c : Int) (hc : 0 ≤ c ∧ c < 256) (hn : c ∉ fo ps) : (fo ps).length < 256 := by
  have h1 : Bytes (ps ++ [c]) := fun z hz => by
    rcases List.mem_append.1 hz with hz | hz
    · exact h z hz
    · rw [List.mem_singleton.1 hz]; exact hc
  have := fo_len _ h1
  rw [fo_snoc, ins, if_neg hn] at this
  simp at this; omega
def rowOf (acc : List Int) : Nat → Int := fun i => acc.getD i 0
theorem rowOf_snoc (acc : List Int) (c : Int) : upd (rowOf acc) acc.length c = rowOf (acc ++ [c]) := by
  funext i; unfold upd rowOf
  rw [List.getD_eq_getElem?_getD, List.getD_eq_getElem?_getD]
  split
  · rename_i h; rw [h, List.getElem?_append_right (Nat.le_refl _)]; simp
  · rename_i h
    by_cases h' : i < acc.length
    · rw [List.getElem?_append_left h']
    · rw [List.getElem?_append_right (by omega), List.getElem?_eq_none (by omega), List.getElem?_eq_none (by simp; omega)]
/-- The list with which the ranks start. -/
def fol (zs : List Int) : Nat → Int := rowOf (fo (zs ++ r256 256))
theorem fol_all (zs : List Int) (hb : Bytes zs) : AllIn (fol zs) := by
  intro c h0 h1
  have hm : c ∈ fo (zs ++ r256 256) := (fo_mem _ _).2 (List.mem_append_right _ ((r256_mem 256 c).2 ⟨h0, h1⟩))
  obtain ⟨p, hp, e⟩ := List.getElem_of_mem hm
  have hl : (fo (zs ++ r256 256)).length ≤ 256 := fo_len _ (fun z hz => by
    rcases List.mem_append.1 hz with hz | hz
    · exact hb z hz
    · exact (r256_mem 256 z).1 hz)
  exact ⟨p, by omega, by unfold fol rowOf; simp [hp, e]⟩

/-! The counts. -/
def cn (zs : List Int) (v : Nat) : Nat := zs.count (v : Int)
theorem cn_le (zs : List Int) (v : Nat) : cn zs v ≤ zs.length := List.count_le_length
theorem cn_snoc (ps : List Int) (c : Int) (v : Nat) : cn (ps ++ [c]) v = cn ps v + (if (v : Int) = c then 1 else 0) := by
  unfold cn; rw [List.count_append]; congr 1
  by_cases h : (v : Int) = c
  · rw [if_pos h, h]; simp
  · rw [if_neg h, List.count_eq_zero]; simp [h]
theorem cn_zero (ps : List Int) (v : Nat) : cn ps v = 0 ↔ (v : Int) ∉ fo ps := by
  unfold cn; rw [List.count_eq_zero, fo_mem]
/-- The counts as the row of ints holds them. -/
def cnI (zs : List Int) : Nat → Int := fun v => (cn zs v : Int)
theorem cnI_snoc (ps : List Int) (c : Int) (h0 : 0 ≤ c) : cnI (ps ++ [c]) = upd (cnI ps) c.toNat (cnI ps c.toNat + 1) := by
  funext v; unfold upd cnI; rw [cn_snoc]
  by_cases h : (v : Int) = c
  · rw [if_pos h, if_pos (by omega)]
    have : v = c.toNat := by omega
    rw [this]; omega
  · rw [if_neg h, if_neg (by omega)]; simp

/-! The header. -/
def hd (f : Nat → Nat) : Nat → List Int
  | 0 => []
  | v + 1 => hd f v ++ uv 9 (f v)
theorem hd_len (f : Nat → Nat) : ∀ v, (hd f v).length ≤ 10 * v
  | 0 => by simp [hd]
  | v + 1 => by
    have h1 := hd_len f v
    have h2 : (uv 9 (f v)).length ≤ 10 := (uv_len 9 (f v)).2
    simp only [hd, List.length_append]; omega

/-! The ranks of the bytes of one value. -/
def sel (v : Int) : List Int → List Int → List Int
  | z :: zs, r :: rs => if z = v then r :: sel v zs rs else sel v zs rs
  | _, _ => []
theorem sel_len (v : Int) : ∀ (zs rs : List Int), zs.length = rs.length → (sel v zs rs).length = zs.count v
  | [], [], _ => rfl
  | [], _ :: _, h => by simp at h
  | _ :: _, [], h => by simp at h
  | z :: zs, r :: rs, h => by
    have ih := sel_len v zs rs (by simpa using h)
    unfold sel
    by_cases e : z = v
    · rw [if_pos e, List.length_cons, ih, e, List.count_cons_self]
    · rw [if_neg e, ih, List.count_cons_of_ne (by simpa using e)]
theorem sel_app (v : Int) : ∀ (a c b d : List Int), a.length = c.length → sel v (a ++ b) (c ++ d) = sel v a c ++ sel v b d
  | [], [], b, d, _ => rfl
  | [], _ :: _, _, _, h => by simp at h
  | _ :: _, [], _, _, h => by simp at h
  | z :: a, r :: c, b, d, h => by
    have ih := sel_app v a c b d (by simpa using h)
    simp only [List.cons_append, sel]
    split
    · rw [ih]; rfl
    · exact ih
theorem split_at (zs : List Int) (k : Nat) (hk : k < zs.length) : zs = zs.take k ++ (zs.getD k 0 :: zs.drop (k + 1)) := by
  have h1 := List.take_append_drop k zs
  rw [List.drop_eq_getElem_cons hk] at h1
  have : zs.getD k 0 = zs[k] := by simp [hk]
  rw [this]; exact h1.symm
/-- The k-th rank in its group. -/
theorem sel_at (zs rs : List Int) (hl : zs.length = rs.length) (k : Nat) (hk : k < zs.length) : (sel (zs.getD k 0) zs rs).getD ((zs.take k).count (zs.getD k 0)) 0 = rs.getD k 0 := by
  have e1 := split_at zs k hk
  have e2 := split_at rs k (by omega)
  have hlen : (zs.take k).length = (rs.take k).length := by simp; omega
  have e3 : sel (zs.getD k 0) zs rs = sel (zs.getD k 0) (zs.take k) (rs.take k) ++ sel (zs.getD k 0) (zs.getD k 0 :: zs.drop (k + 1)) (rs.getD k 0 :: rs.drop (k + 1)) := by
    rw [← sel_app _ _ _ _ _ hlen, ← e1, ← e2]
  rw [e3, List.getD_eq_getElem?_getD, List.getElem?_append_right (by rw [sel_len _ _ _ hlen]; exact Nat.le_refl _), sel_len _ _ _ hlen]
  simp [sel]
theorem count_take_lt (zs : List Int) (k : Nat) (hk : k < zs.length) : (zs.take k).count (zs.getD k 0) < zs.count (zs.getD k 0) := by
  have e1 := split_at zs k hk
  have : zs.count (zs.getD k 0) = (zs.take k).count (zs.getD k 0) + ((zs.getD k 0 :: zs.drop (k + 1)).count (zs.getD k 0)) := by rw [← List.count_append, ← e1]
  rw [this, List.count_cons_self]; omega

/-! The groups. -/
def grp (G zs rs : List Int) : List Int := G.flatMap (fun v => sel v zs rs)
def stt (H : Nat) (G zs rs : List Int) (i : Nat) : Nat := H + (grp (G.take i) zs rs).length
theorem grp_snoc (G zs rs : List Int) (v : Int) : grp (G ++ [v]) zs rs = grp G zs rs ++ sel v zs rs := by simp [grp, List.flatMap_append]
theorem grp_next (G zs rs : List Int) (i : Nat) (hi : i < G.length) : grp (G.take (i + 1)) zs rs = grp (G.take i) zs rs ++ sel (G.getD i 0) zs rs := by
  rw [take_next G i hi, grp_snoc]
theorem stt_succ (H : Nat) (G zs rs : List Int) (hl : zs.length = rs.length) (i : Nat) (hi : i < G.length) : stt H G zs rs (i + 1) = stt H G zs rs i + zs.count (G.getD i 0) := by
  unfold stt; rw [grp_next G zs rs i hi, List.length_append, sel_len _ _ _ hl]; omega
theorem stt_mono (H : Nat) (G zs rs : List Int) (hl : zs.length = rs.length) (i : Nat) : ∀ j, i ≤ j → j ≤ G.length → stt H G zs rs i ≤ stt H G zs rs j
  | 0, h, _ => by have : i = 0 := by omega
                  rw [this]; exact Nat.le_refl _
  | j + 1, h, hj => by
    by_cases e : i = j + 1
    · rw [e]; exact Nat.le_refl _
    · have := stt_mono H G zs rs hl i j (by omega) (by omega)
      rw [stt_succ H G zs rs hl j (by omega)]; omega
theorem count_one (z : Int) : ∀ (G : List Int), G.Nodup → z ∈ G → G.count z = 1
  | [], _, h => by simp at h
  | a :: G, hn, h => by
    rw [List.nodup_cons] at hn
    by_cases e : a = z
    · subst e; rw [List.count_cons_self, List.count_eq_zero.2 hn.1]
    · rw [List.count_cons_of_ne (by simpa using e)]
      refine count_one z G hn.2 ?_
      rcases List.mem_cons.1 h with h | h
      · exact absurd h.symm e
      · exact h
theorem sum_cons (z : Int) (zs : List Int) : ∀ (G : List Int), (G.map (fun v => (z :: zs).count v)).sum = (G.map (fun v => zs.count v)).sum + G.count z
  | [] => rfl
  | a :: G => by
    have ih := sum_cons z zs G
    simp only [List.map_cons, List.sum_cons, ih]
    by_cases e : z = a
    · subst e; rw [List.count_cons_self, List.count_cons_self]; omega
    · rw [List.count_cons_of_ne (by simpa using e), List.count_cons_of_ne (by simpa using fun h => e h.symm)]; omega
theorem sum_count (G : List Int) (hn : G.Nodup) : ∀ (zs : List Int), (∀ z ∈ zs, z ∈ G) → (G.map (fun v => zs.count v)).sum = zs.length
  | [], _ => by
    have : ∀ (G : List Int), (G.map (fun v => ([] : List Int).count v)).sum = 0 := by
      intro G; induction G with
      | nil => rfl
      | cons a G ih => simp only [List.map_cons, List.sum_cons, ih]; rfl
    exact this G
  | z :: zs, h => by
    rw [sum_cons, sum_count G hn zs (fun x hx => h x (by simp [hx])), count_one z G hn (h z (by simp))]; rfl
theorem grp_len (zs rs : List Int) (hl : zs.length = rs.length) : ∀ (G : List Int), (grp G zs rs).length = (G.map (fun v => zs.count v)).sum
  | [] => rfl
  | a :: G => by
    have ih := grp_len zs rs hl G
    simp only [grp, List.flatMap_cons, List.length_append, List.map_cons, List.sum_cons, sel_len _ _ _ hl] at ih ⊢
    omega
theorem stt_total (H : Nat) (G zs rs : List Int) (hl : zs.length = rs.length) (hn : G.Nodup) (hz : ∀ z ∈ zs, z ∈ G) : stt H G zs rs G.length = H + zs.length := by
  unfold stt; rw [List.take_length, grp_len zs rs hl, sum_count G hn zs hz]
theorem read_all (hs G zs rs : List Int) (hl : zs.length = rs.length) (D : Nat → Int) (hH : ∀ j, j < hs.length → D j = hs.getD j 0)
    (hG : ∀ i, i < G.length → ∀ t, t < zs.count (G.getD i 0) → D (stt hs.length G zs rs i + t) = (sel (G.getD i 0) zs rs).getD t 0) :
    ∀ i, i ≤ G.length → ∀ j, j < stt hs.length G zs rs i → D j = (hs ++ grp (G.take i) zs rs).getD j 0
  | 0, _, j, hj => by
    have e : grp (G.take 0) zs rs = [] := rfl
    unfold stt at hj
    rw [e] at hj ⊢
    rw [List.append_nil]
    exact hH j (by simpa using hj)
  | i + 1, hi, j, hj => by
    by_cases h : j < stt hs.length G zs rs i
    · rw [read_all hs G zs rs hl D hH hG i (by omega) j h, grp_next G zs rs i (by omega), ← List.append_assoc]
      exact (getD_front (hs ++ grp (G.take i) zs rs) _ _ (by unfold stt at h; simpa using h)).symm
    · rw [stt_succ _ _ _ _ hl i (by omega)] at hj
      obtain ⟨t, rfl⟩ : ∃ t, j = stt hs.length G zs rs i + t := ⟨j - stt hs.length G zs rs i, by omega⟩
      rw [hG i (by omega) t (by omega), grp_next G zs rs i (by omega), ← List.append_assoc]
      generalize hS : sel (G.getD i 0) zs rs = S
      have hA : (hs ++ grp (G.take i) zs rs).length = stt hs.length G zs rs i := by unfold stt; simp
      generalize hs ++ grp (G.take i) zs rs = A at *
      rw [List.getD_eq_getElem?_getD, List.getD_eq_getElem?_getD, List.getElem?_append_right (by omega), hA]
      congr 2
      omega
theorem Ordered.nodup {cnt : Nat → Nat} {G : List Int} (h : Ordered cnt G) : G.Nodup := by
  unfold List.Nodup
  rw [List.pairwise_iff_getElem]
  intro i j hi hj hij e
  have h1 := h.srt i j hij hj
  have : G.getD i 0 = G.getD j 0 := by simp [hi, hj, e]
  rw [this] at h1
  unfold cLT at h1; omega
theorem Ordered.has {zs G : List Int} (hb : Bytes zs) (h : Ordered (cn zs) G) : ∀ z ∈ zs, z ∈ G := by
  intro z hz
  have := hb z hz
  refine (h.mem z).2 ⟨z.toNat, by omega, by omega, ?_⟩
  unfold cn
  rw [show ((z.toNat : Nat) : Int) = z by omega]
  exact List.count_pos_iff.2 hz
def spec (zs G : List Int) : List Int := hd (cn zs) 256 ++ grp G zs (mtfR (fol zs) zs)
end Go.Proofs.Ybulkcmdi
