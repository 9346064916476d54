/-
  'append(s, make([]byte, m)...)': the model has it as ONE append of m zeros (the second argument's type is int's). The kit has no law for it: here it is, for a slice of bytes of the call's own; after the kit's run_append_own.
-/
import Derived.Test.YbulkcmdiFin2
namespace Go.Proofs.Ybulkcmdi
open Go.RowKit
set_option linter.unusedVariables false
set_option linter.unusedSimpArgs false

theorem zeroCells_bytes (n : Nat) : Builtin.zeroCells #[.int .u8 0] n = Array.replicate n (.int .u8 0) := by
  apply Array.ext
  · simp [Builtin.zeroCells]
  · intro i h1 h2
    simp [Builtin.zeroCells, Nat.mod_one]

theorem i64_wrap_id (m : Nat) (h : m ≤ 1000000) : IntKind.i64.wrap (m : Int) = m := by rw [IntKind.wrap_i64]; omega

theorem run_append_zeros (w : World) (base : Nat) (ty : TypeId) (v : Value) (zs : List Int) (hown : Own w base v zs) (m : Nat) (hm : 0 < m) (h63 : zs.length + m ≤ 1000000) (hbase : base ≤ w.heap.size) :
    ∃ v' w', (Builtin.append_ #[22, 3] ty #[v, .int .i64 (m : Int)]).run Yba.prog w = .ok v' w' ∧ Own w' base v' (zs ++ List.replicate m 0) ∧ w.grownBy w' v.ownBlock := by
  obtain ⟨i, hi, hz, hsize, hby⟩ := info_parts Yba.info5
  have hwm := i64_wrap_id m (by omega)
  have hm0 : ¬ ((m : Int) < 0) := by omega
  have hm48 : ¬ (281474976710656 < (m : Int)) := by omega
  have hmz : m ≠ 0 := by omega
  have hmp : ¬ ((m : Int) ≤ 0) := by omega
  have hlen : (zs ++ List.replicate m 0).length = zs.length + m := by simp
  have hmap : (zs ++ List.replicate m 0).map (Value.int .u8) = zs.map (Value.int .u8) ++ List.replicate m (Value.int .u8 0) := by simp
  have grown : ∀ (old : Nat), old < zs.length + m → ∀ (row : Option Nat),
      Own (w.drew.alloc (.cells ((zs.map (Value.int .u8)).toArray ++ Array.replicate m (Value.int .u8 0) ++ Array.replicate (grownCap w (zs.length + m) old 5 - (zs.length + m)) (Value.int .u8 0)) 5)) base
        (.slice (some ⟨w.heap.size, 0, none⟩) (zs.length + m) (grownCap w (zs.length + m) old 5)) (zs ++ List.replicate m 0) ∧
      w.grownBy (w.drew.alloc (.cells ((zs.map (Value.int .u8)).toArray ++ Array.replicate m (Value.int .u8 0) ++ Array.replicate (grownCap w (zs.length + m) old 5 - (zs.length + m)) (Value.int .u8 0)) 5)) row := by
    intro old ho row
    have hge := grownCap_ge w (zs.length + m) old 5
    have hcm : grownCap w (zs.length + m) old 5 ≤ maxLen := grownCap_le_maxLen w (zs.length + m) old 5 (by unfold maxLen; omega)
    refine ⟨⟨by simp, .inr ⟨w.heap.size, _, _, by rw [hlen], hbase, heap_alloc_new w.drew _, by rw [hlen]; exact hge, hcm, ?_, ?_⟩⟩, ⟨rfl, rfl, rfl, by simp, fun k hk _ => Below.heap_alloc w.drew _ k hk⟩⟩
    · simp; omega
    · rw [hlen, Nat.mul_one, hmap]
      simp only [Array.toList_append, Array.toList_replicate]
      exact List.take_left' (by simp)
  rcases hown with ⟨hl0, ⟨rfl, hn⟩ | ⟨g, cap, cur, rfl, hbg, hg, hnc, hcm, hcs, htake⟩⟩
  · obtain rfl : zs = [] := List.eq_nil_of_length_eq_zero hn
    have hgr := grown 0 (by omega) (Value.ownBlock (.slice none 0 0))
    refine ⟨_, _, ?_, hgr.1, hgr.2⟩
    have h48' : ¬ (281474976710656 < Builtin.nextslicecap m 0) := by rw [nextslicecap_zero hm]; omega
    have h63' : ¬ (9223372036854775807 < (m : Int)) := by omega
    simp [Builtin.append_, run_underlying Yba.underlying22, run_underlying Yba.underlying3, sizeOf, typeInfo, zeroValue, hi, hz, hsize, hby, asInt, asIntOf, hwm, hmp, hm0, hm48, hmz, h63', h48', Question.forced, run_firstCells_none, newRow, grownCap, zeroCells_bytes, show (Value.int IntKind.u8 0).cells = #[.int .u8 0] from rfl]
  · by_cases hroom : zs.length + m ≤ cap
    · refine ⟨.slice (some ⟨g, 0, none⟩) (zs.length + m) cap, w.setRow g (cur.toList.take zs.length ++ List.replicate m (Value.int .u8 0) ++ cur.toList.drop (zs.length + m)).toArray, ?_, ⟨by simp, .inr ⟨g, cap, _, by rw [hlen], hbg, setRow_heap w g cur _ 5 _ hg, by rw [hlen]; exact hroom, hcm, ?_, ?_⟩⟩, ⟨rfl, rfl, rfl, by simp, fun k _ hk => setRow_other w g k _ (fun e => hk (by simp [Value.ownBlock, e]))⟩⟩
      · have hst := run_storeCells_at Yba.prog g zs.length 5 (List.replicate m (Value.int .u8 0)) 0 cur w hg (by simp; omega) (fun v hv => by rw [List.eq_of_mem_replicate hv]; rfl)
        simp only [Nat.add_zero, List.length_replicate] at hst
        simp [Builtin.append_, run_underlying Yba.underlying22, run_underlying Yba.underlying3, sizeOf, typeInfo, zeroValue, hi, hz, hsize, hby, asInt, asIntOf, hwm, hmp, hm0, hm48, hmz, hroom, zeroCells_bytes, show (Value.int IntKind.u8 0).cells = #[.int .u8 0] from rfl, Addr.add_lit, hst]
      · simp; omega
      · rw [hlen, Nat.mul_one, hmap]
        have : cur.toList.take zs.length = zs.map (Value.int .u8) := by simpa using htake
        rw [this]
        exact List.take_left' (by simp)
    · have hgr := grown cap (by omega) (Value.ownBlock (.slice (some ⟨g, 0, none⟩) zs.length cap))
      refine ⟨_, _, ?_, hgr.1, hgr.2⟩
      have holds : ∀ j u, (zs.map (Value.int .u8))[j]? = some u → w.drew.cell? ((⟨g, 0, none⟩ : Addr).add j) = some u := World.ownsRow.cells (w := w) (base := base) (e := 5) (size := 1) (v := .slice (some ⟨g, 0, none⟩) zs.length cap) (n := zs.length) ⟨hl0, .inr ⟨g, cap, cur, rfl, hbg, hg, hnc, hcm, hcs, htake⟩⟩ (g := g) rfl
      have hfo := run_firstCells_some (P := Yba.prog) w.drew 1 zs.length ⟨g, 0, none⟩ zs.length cap (zs.map (Value.int .u8)) (by simp) holds
      have h48' : ¬ (281474976710656 < Builtin.nextslicecap (zs.length + m) cap) := by have := growslice_fits (bytes := 1) (need := zs.length + m) (old := cap) (by omega) (by omega); omega
      have h63' : ¬ (9223372036854775807 < ((zs.length : Int) + (m : Int))) := by omega
      simp [Builtin.append_, run_underlying Yba.underlying22, run_underlying Yba.underlying3, sizeOf, typeInfo, zeroValue, hi, hz, hsize, hby, asInt, asIntOf, hwm, hmp, hm0, hm48, hmz, hroom, h63', h48', Question.forced, hfo, newRow, grownCap, zeroCells_bytes, show (Value.int IntKind.u8 0).cells = #[.int .u8 0] from rfl]

theorem wpList_append_zeros {w : World} {ops : Array Oper} {rest : List Oper} {o : Oper} {a : Act} {Q : Exit → Act → World → Prop} (hgd : o.guard = none) (s x : Operand)
    (ho : o.op = .call { callee := .builtin .append, args := #[s, x], argTypes := #[22, 3] })
    (base : Nat) (v : Value) (zs : List Int) (hs : a.eval s = v) (hown : Own w base v zs) (m : Nat) (hx : a.eval x = .int .i64 (m : Int)) (hm : 0 < m)
    (h63 : zs.length + m ≤ 1000000) (hbase : base ≤ w.heap.size) (w0 : World) (hb : Below base w0 w)
    (h : ∀ v' w', Own w' base v' (zs ++ List.replicate m 0) → Below base w0 w' → w.grownBy w' v.ownBlock → wpList Yba.prog ops Q rest (a.put o.dst v') w') : wpList Yba.prog ops Q (o :: rest) a w := by
  obtain ⟨v', w', hr, h2, h3⟩ := run_append_zeros w base o.type v zs hown m hm h63 hbase
  refine wpList_plain hgd fun K hK => ?_
  unfold Oper.wp
  simp [execOp, ho, resolve, invoke, builtin, hs, hx, hr, Result.andThen]
  exact hK _ _ (h v' w' h2 (hb.grown h3 hbase (fun k hk => (hown.lt k hk).1)) h3)
end Go.Proofs.Ybulkcmdi
