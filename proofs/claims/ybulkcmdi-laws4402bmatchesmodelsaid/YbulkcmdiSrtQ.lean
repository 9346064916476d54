import Derived.Test.YbulkcmdiRowI
namespace Go.Proofs.Ybulkcmdi
open Go.RowKit
set_option linter.unusedVariables false
set_option linter.unusedSimpArgs false

theorem hd_ge (f : Nat → Nat) : ∀ v, v ≤ (hd f v).length
  | 0 => by simp
  | v + 1 => by
    have h1 := hd_ge f v
    have h2 := (uv_len 9 (f v)).1
    simp only [hd, List.length_append]; omega
theorem Ordered.inj {cnt : Nat → Nat} {G : List Int} (h : Ordered cnt G) (i j : Nat) (hi : i < G.length) (hj : j < G.length) (e : G.getD i 0 = G.getD j 0) : i = j := by
  rcases Nat.lt_trichotomy i j with h1 | h1 | h1
  · have := h.srt i j h1 hj; rw [e] at this; unfold cLT at this; omega
  · exact h1
  · have := h.srt j i h1 hi; rw [e] at this; unfold cLT at this; omega
theorem Ordered.byte {cnt : Nat → Nat} {G : List Int} (h : Ordered cnt G) (i : Nat) (hi : i < G.length) : 0 ≤ G.getD i 0 ∧ G.getD i 0 < 256 := by
  obtain ⟨v, e, hv, _⟩ := (h.mem (G.getD i 0)).1 (by simp [hi])
  omega
theorem Ordered.len {cnt : Nat → Nat} {G : List Int} (h : Ordered cnt G) : G.length ≤ 256 := by
  have := nodup_len G (r256 256) h.nodup (fun x hx => by
    obtain ⟨v, e, hv, _⟩ := (h.mem x).1 hx
    exact (r256_mem 256 x).2 (by omega))
  rwa [r256_len] at this
theorem count_next (zs : List Int) (k : Nat) (hk : k < zs.length) (v : Int) : (zs.take (k + 1)).count v = (zs.take k).count v + (if zs.getD k 0 = v then 1 else 0) := by
  rw [take_next zs k hk, List.count_append]; congr 1
  by_cases h : zs.getD k 0 = v
  · rw [if_pos h, h]; simp
  · rw [if_neg h, List.count_eq_zero]; simp; exact fun e => h (by rw [e]; simp)
theorem count_take_le (zs : List Int) (k : Nat) (v : Int) : (zs.take k).count v ≤ zs.count v := by
  have : zs.count v = (zs.take k).count v + (zs.drop k).count v := by rw [← List.count_append, List.take_append_drop]
  omega
/-- The ranks of the first k bytes stand at their places; the next place of each group is known. -/
structure DI (hs G zs rs : List Int) (k : Nat) (d f : Nat → Int) : Prop where
  head : ∀ j, j < hs.length → d j = hs.getD j 0
  next : ∀ i, i < G.length → f (G.getD i 0).toNat = (stt hs.length G zs rs i + (zs.take k).count (G.getD i 0) : Nat)
  at_ : ∀ i, i < G.length → ∀ t, t < (zs.take k).count (G.getD i 0) → d (stt hs.length G zs rs i + t) = (sel (G.getD i 0) zs rs).getD t 0
theorem DI.step {hs G zs rs : List Int} {k : Nat} {d f : Nat → Int} (h : DI hs G zs rs k d f) (hl : zs.length = rs.length) (hb : Bytes zs) (ho : Ordered (cn zs) G) (hk : k < zs.length) :
    ∃ p : Nat, f (zs.getD k 0).toNat = p ∧ p < hs.length + zs.length ∧ DI hs G zs rs (k + 1) (upd d p (rs.getD k 0)) (upd f (zs.getD k 0).toNat ((p : Int) + 1)) := by
  have hz := hb.get k hk
  have hm : zs.getD k 0 ∈ G := ho.has hb _ (by simp [hk])
  obtain ⟨i0, hi0, e0⟩ : ∃ i, i < G.length ∧ G.getD i 0 = zs.getD k 0 := by
    obtain ⟨i, hi, e⟩ := List.getElem_of_mem hm
    exact ⟨i, hi, by simp [hi]; rw [e]; simp⟩
  have hlt := count_take_lt zs k hk
  have hsel := sel_at zs rs hl k hk
  have hnx := count_next zs k hk
  have hn0 := h.next i0 hi0
  have hsu := stt_succ hs.length G zs rs hl i0 hi0
  have hto := stt_total hs.length G zs rs hl ho.nodup (ho.has hb)
  have hmo := fun i j => stt_mono hs.length G zs rs hl i j
  have hge : ∀ i, hs.length ≤ stt hs.length G zs rs i := fun i => by unfold stt; omega
  rw [e0] at hn0 hsu
  generalize hc : zs.getD k 0 = c at *
  have hm1 := hmo (i0 + 1) G.length (by omega) (Nat.le_refl _)
  refine ⟨stt hs.length G zs rs i0 + (zs.take k).count c, hn0, by omega, ⟨fun j hj => ?_, fun i hi => ?_, fun i hi t ht => ?_⟩⟩
  · unfold upd; have := hge i0; rw [if_neg (by omega)]; exact h.head j hj
  · have hbi := ho.byte i hi
    unfold upd
    by_cases e : G.getD i 0 = c
    · have : i = i0 := ho.inj i i0 hi hi0 (e.trans e0.symm)
      subst this
      rw [e, if_pos rfl, hnx, if_pos rfl]; omega
    · rw [if_neg (by omega), h.next i hi, hnx, if_neg (fun x => e x.symm)]; omega
  · rw [hnx] at ht
    unfold upd
    by_cases e : G.getD i 0 = c
    · have : i = i0 := ho.inj i i0 hi hi0 (e.trans e0.symm)
      subst this
      rw [e, if_pos rfl] at ht
      by_cases ht' : t = (zs.take k).count c
      · rw [if_pos (by omega), e, ht', hsel]
      · rw [if_neg (by omega)]; exact h.at_ i hi t (by rw [e]; omega)
    · rw [if_neg (fun x => e x.symm)] at ht
      have hcl := count_take_le zs k (G.getD i 0)
      have hs' := stt_succ hs.length G zs rs hl i hi
      rw [if_neg ?_]
      · exact h.at_ i hi t (by omega)
      · rcases Nat.lt_trichotomy i i0 with q | q | q
        · have := hmo (i + 1) i0 (by omega) (by omega); omega
        · subst q; exact absurd e0 e
        · have := hmo (i0 + 1) i (by omega) (by omega); omega
theorem DI.start {hs G zs rs : List Int} {f : Nat → Int} (hf : ∀ i, i < G.length → f (G.getD i 0).toNat = (stt hs.length G zs rs i : Nat)) : DI hs G zs rs 0 (rowOf hs) f :=
  ⟨fun j hj => rfl, fun i hi => by rw [hf i hi]; simp, fun i hi t ht => by simp at ht⟩
theorem DI.done {hs G zs rs : List Int} {d f : Nat → Int} (h : DI hs G zs rs zs.length d f) (hl : zs.length = rs.length) (hb : Bytes zs) (ho : Ordered (cn zs) G) : ∀ j, j < hs.length + zs.length → d j = (hs ++ grp G zs rs).getD j 0 := by
  intro j hj
  have hto := stt_total hs.length G zs rs hl ho.nodup (ho.has hb)
  have := read_all hs G zs rs hl d h.head (fun i hi t ht => h.at_ i hi t (by rw [List.take_length]; exact ht)) G.length (Nat.le_refl _) j (by omega)
  rwa [List.take_length] at this
theorem spec_len (zs G : List Int) (hb : Bytes zs) (ho : Ordered (cn zs) G) : (spec zs G).length = (hd (cn zs) 256).length + zs.length := by
  have hl : zs.length = (mtfR (fol zs) zs).length := (mtfR_len _ _).symm
  unfold spec
  rw [List.length_append, grp_len zs _ hl, sum_count G ho.nodup zs (ho.has hb)]
end Go.Proofs.Ybulkcmdi
