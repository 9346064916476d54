import Derived.Test.YbulkcmdiSortI
import Derived.Test.YbulkcmdiScript
namespace Go.Proofs.Ybulkcmdi
open Go.RowKit
set_option linter.unusedVariables false
set_option linter.unusedSimpArgs false

set_option maxRecDepth 100000 in
theorem ins_tiny (p q : Value) (N : Nat) (w : World) (hN : N ≤ 1) :
    Calls Yba.prog 39 #[.agg #[p, q], .int .i64 0, .int .i64 (N : Int)] w fun e w' => e = .returned (.tuple #[]) ∧ Fr (fun _ => False) w w' := by
  have h1 : ¬ ((1 : Int) < N) := by omega
  go_enter Yba.func39, Yba.ntmps39
  go_wp2
  refine wp_loop_rounds 1 ?_
  rw [rounds_succ]
  go_wp2
  go_end0
  exact ⟨rfl, Fr.alloc _ _ _⟩

set_option maxRecDepth 100000 in
theorem stable_tiny (lf : Fn) (la lb : Array Value) (sf : Nat) (sb : Array Value) (N : Nat) (w : World) (hN : N ≤ 1) :
    Calls Yba.prog 27 #[.agg #[.func lf la lb, .func (.func sf) #[] sb], .int .i64 (N : Int)] w fun e w' => e = .returned (.tuple #[]) ∧ Fr (fun _ => False) w w' := by
  have h1 : ¬ ((20 : Int) ≤ N) := by omega
  have h2 : ¬ ((20 : Int) < N) := by omega
  go_enter Yba.func27, Yba.ntmps27
  go_wp2
  refine wp_loop_rounds 1 ?_
  rw [rounds_succ]
  go_wp2_with fail
  refine (ins_tiny (.func lf la lb) (.func (.func sf) #[] sb) N _ hN).mono ?_
  rintro e w2 ⟨rfl, hf⟩
  go_wp2
  refine wp_loop_rounds 1 ?_
  rw [rounds_succ]
  go_wp2
  go_end0
  exact ⟨rfl, (Fr.alloc _ _ _).trans hf⟩

set_option maxHeartbeats 1600000 in
set_option maxRecDepth 100000 in
theorem sst_tiny (lf : Fn) (la lb : Array Value) (p : Option Addr) (N c : Nat) (w : World) (hN : N ≤ 1) :
    Calls Yba.prog 21 #[.iface 22 (.slice p N c), .func lf la lb] w fun e w' => e = .returned (.tuple #[]) ∧ Fr (fun _ => False) w w' := by
  obtain ⟨ie, hie, hs, hbt, hpt⟩ := info5_ex
  obtain ⟨it, hit, hdt⟩ := info22_ex
  obtain ⟨sf, hsf⟩ : ∃ sf, Yba.prog.funcs.findIdx? (·.name == "internal/reflectlite" ++ ".Swapper$" ++ toString (Lib.swapperK N ie 8)) = some sf := by
    rcases (by omega : N = 0 ∨ N = 1) with rfl | rfl
    · exact ⟨30, by simp only [Lib.swapperK]; kernel_rfl⟩
    · exact ⟨31, by simp only [Lib.swapperK]; kernel_rfl⟩
  have hK : Lib.swapperK N ie 8 ≤ 2 := by
    rcases (by omega : N = 0 ∨ N = 1) with rfl | rfl <;> simp [Lib.swapperK]
  have hv := Lib.run_valueOf_slice (P := Yba.prog) 22 5 it hit hdt p N c w
  have hsw := fun w => Lib.run_swapper_slice (P := Yba.prog) 22 5 it ie hit hdt hie 8 kind5 p N c sf hsf w
  simp only [hK, if_true] at hsw
  have hlen := fun a w ha => Lib.run_valueLen_slice (P := Yba.prog) 22 5 it hit hdt packed22 a p N c w ha
  clear hK hsf
  have hg0 : Yba.prog.globals.size = 0 := by kernel_rfl
  simp only [typeHandle, hg0] at hv hlen
  clear hg0
  go_enter Yba.func21, Yba.ntmps21
  go_wp2
  rw [run_callFunc_extern Yba.func25 (by kernel_rfl) (by kernel_rfl) (by kernel_rfl) (e := fun args => Extern.ReflectliteValue.unpack (args.getD 0 (.tuple #[]))) (by kernel_rfl),
    show Sem.run Yba.prog ((fun args : Array Value => Extern.ReflectliteValue.unpack (args.getD 0 (.tuple #[]))) #[.iface 22 (.slice p N c)]) w = _ from hv]
  simp only [Result.andThen]
  rw [Oper.upon_value]
  go_wp2
  rw [run_callFunc_extern Yba.func26 (by kernel_rfl) (by kernel_rfl) (by kernel_rfl) (e := Extern.ReflectliteSwapper.swapper "internal/reflectlite" (Extern.ReflectliteValue.valueError "Swapper")) (by kernel_rfl), hsw]
  simp only [Result.andThen]
  rw [Oper.upon_value]
  go_wp2
  rw [run_callFunc_extern Yba.func28 (by kernel_rfl) (by kernel_rfl) (by kernel_rfl) (e := Extern.ReflectliteValue.method (Extern.ReflectliteValue.valueError "reflectlite.Value.Len" 0) Extern.ReflectliteValue.len) (by kernel_rfl),
    hlen _ _ (by simp)]
  simp only [Result.andThen]
  rw [Oper.upon_value]
  go_wp2_with fail
  refine (stable_tiny lf la lb sf #[] N _ hN).mono ?_
  rintro e w' ⟨rfl, hR⟩
  go_wp2
  go_end0
  exact ⟨rfl, ((Fr.alloc _ _ _).trans (Fr.alloc _ _ _)).trans hR⟩

/-- The order of the groups. -/
def cLT (cnt : Nat → Nat) (x y : Int) : Prop := cnt y.toNat < cnt x.toNat ∨ (cnt x.toNat = cnt y.toNat ∧ x < y)
def clt (cnt : Nat → Nat) (x y : Int) : Bool := decide (cnt y.toNat < cnt x.toNat)
theorem cLT_trans (cnt : Nat → Nat) (x y z : Int) (h1 : cLT cnt x y) (h2 : cLT cnt y z) : cLT cnt x z := by unfold cLT at *; omega
theorem c_agree (cnt : Nat → Nat) : Agree (cLT cnt) (clt cnt) := by
  intro x y h
  unfold cLT clt
  constructor
  · intro h1; simp at h1; omega
  · intro h1; simp at h1; omega

set_option maxHeartbeats 1600000 in
theorem less_u (cnt : Nat → Nat) (hcn : ∀ v, cnt v ≤ 100000) (cb vb K V N c : Nat) (f : Nat → Int) (w : World) (hb1 : w.cell? ⟨cb, 0, none⟩ = some (.pointer (some ⟨K, 0, none⟩))) (hb2 : w.cell? ⟨vb, 0, none⟩ = some (.slice (some ⟨V, 0, none⟩) N c))
    (hK : ∀ v, v < 256 → w.cell? ⟨K, v, none⟩ = some (.int .i64 (cnt v : Int))) (hA : ArrF w V N f) (hby : ∀ k, 0 ≤ f k ∧ f k < 256) (i j : Nat) (hi : i < N) (hj : j < N) (hN : N ≤ 256) :
    Calls Yba.prog 22 #[.int .i64 (i : Int), .int .i64 (j : Int), .pointer (some ⟨cb, 0, none⟩), .pointer (some ⟨vb, 0, none⟩)] w fun e w' => e = .returned (.bool (clt cnt (f i) (f j))) ∧ ∃ q, w' = w.drewN q := by
  have c1 := (hA i hi).1
  have c2 := (hA j hj).1
  have b1 := hby i
  have b2 := hby j
  have k1 := hK (f i).toNat (by omega)
  have k2 := hK (f j).toNat (by omega)
  have hiI : (i : Int) < N := by omega
  have hjI : (j : Int) < N := by omega
  have HR : Hid (clt cnt (f i) (f j) = decide (cnt (f j).toNat < cnt (f i).toNat)) := rfl
  generalize hfi : f i = x at *
  generalize hfj : f j = y at *
  generalize hcx : cnt x.toNat = cx at *
  generalize hcy : cnt y.toNat = cy at *
  clear hK hA hby hcn hfi hfj
  go_enter Yba.func22, Yba.ntmps22
  go_wp2
  go_quiet (fail)
  go_wp2
  go_ret
  refine ⟨?_, _, rfl⟩
  rw [HR.out]
  rfl

/-- The values that are counted, below c. -/
def vals (cnt : Nat → Nat) (c : Nat) : List Int := ((List.range c).filter (fun v => decide (0 < cnt v))).map (fun v : Nat => (v : Int))
theorem vals_succ (cnt : Nat → Nat) (c : Nat) : vals cnt (c + 1) = vals cnt c ++ (if 0 < cnt c then [(c : Int)] else []) := by
  unfold vals
  rw [List.range_succ, List.filter_append, List.map_append]
  by_cases h : 0 < cnt c <;> simp [h]
theorem vals_mem (cnt : Nat → Nat) (c : Nat) (x : Int) : x ∈ vals cnt c ↔ ∃ v : Nat, x = v ∧ v < c ∧ 0 < cnt v := by
  unfold vals
  simp only [List.mem_map, List.mem_filter, List.mem_range, decide_eq_true_eq]
  constructor
  · rintro ⟨v, ⟨h1, h2⟩, rfl⟩; exact ⟨v, rfl, h1, h2⟩
  · rintro ⟨v, rfl, h1, h2⟩; exact ⟨v, ⟨h1, h2⟩, rfl⟩
theorem vals_len (cnt : Nat → Nat) (c : Nat) : (vals cnt c).length ≤ c := by
  unfold vals
  rw [List.length_map]
  exact Nat.le_trans (List.length_filter_le _ _) (by simp)
theorem vals_asc (cnt : Nat → Nat) : ∀ c i j, i < j → j < (vals cnt c).length → (vals cnt c).getD i 0 < (vals cnt c).getD j 0
  | 0, i, j, _, h => by simp [vals] at h
  | c + 1, i, j, hij, hj => by
    have hlt : ∀ k, k < (vals cnt c).length → (vals cnt c).getD k 0 < c := fun k hk => by
      have hm : (vals cnt c).getD k 0 ∈ vals cnt c := by simp [hk]
      obtain ⟨v, e, h1, _⟩ := (vals_mem cnt c _).1 hm
      omega
    rw [vals_succ] at hj ⊢
    by_cases h : 0 < cnt c
    · rw [if_pos h] at hj ⊢
      simp only [List.length_append, List.length_singleton] at hj
      by_cases hj' : j < (vals cnt c).length
      · have e1 : (vals cnt c ++ [(c : Int)]).getD i 0 = (vals cnt c).getD i 0 := by simp [List.getElem?_append, show i < (vals cnt c).length by omega]
        have e2 : (vals cnt c ++ [(c : Int)]).getD j 0 = (vals cnt c).getD j 0 := by simp [List.getElem?_append, hj']
        rw [e1, e2]; exact vals_asc cnt c i j hij hj'
      · have hje : j = (vals cnt c).length := by omega
        have e1 : (vals cnt c ++ [(c : Int)]).getD i 0 = (vals cnt c).getD i 0 := by simp [List.getElem?_append, show i < (vals cnt c).length by omega]
        have e2 : (vals cnt c ++ [(c : Int)]).getD j 0 = c := by simp [List.getElem?_append, hje]
        rw [e1, e2]; exact hlt i (by omega)
    · rw [if_neg h, List.append_nil] at hj ⊢
      exact vals_asc cnt c i j hij hj
theorem vals_byte (cnt : Nat → Nat) (c : Nat) (hc : c ≤ 256) (k : Nat) : 0 ≤ (vals cnt c).getD k 0 ∧ (vals cnt c).getD k 0 < 256 := by
  by_cases hk : k < (vals cnt c).length
  · have hm : (vals cnt c).getD k 0 ∈ vals cnt c := by simp [hk]
    obtain ⟨v, e, h1, _⟩ := (vals_mem cnt c _).1 hm
    omega
  · have : (vals cnt c).getD k 0 = 0 := by simp [Nat.not_lt.1 hk]
    omega

theorem Own.arrF {w : World} {base g n c : Nat} {zs : List Int} (h : Own w base (.slice (some ⟨g, 0, none⟩) n c) zs) : ArrF w g n (fun k => zs.getD k 0) ∧ n = zs.length ∧ base ≤ g ∧ g < w.heap.size := by
  have ht := h.typ g rfl
  obtain ⟨rfl, hrd, _⟩ := h.rd
  refine ⟨fun j hj => ⟨?_, ht.2.frozen j⟩, rfl, ht.1, ht.2.lt⟩
  obtain ⟨x, hx, hc⟩ := hrd j hj
  obtain rfl := Option.some.inj hx
  rw [add_eq, Nat.zero_add] at hc
  exact hc

/-- The groups' order: the counted values, most counted first, equals rising. -/
structure Ordered (cnt : Nat → Nat) (G : List Int) : Prop where
  srt : ∀ i j, i < j → j < G.length → cLT cnt (G.getD i 0) (G.getD j 0)
  mem : ∀ x, x ∈ G ↔ ∃ v : Nat, x = v ∧ v < 256 ∧ 0 < cnt v
def GrpPost (cnt : Nat → Nat) (w : World) (e : Ending) (w' : World) : Prop := ∃ ao c G, e = .returned (.slice ao G.length c) ∧ Rd w' ao G ∧ Ordered cnt G ∧ Below w.heap.size w w' ∧ (∀ x, ao = some x → w.heap.size ≤ x.block ∧ x.block < w'.heap.size) ∧ (ao = none → c = 0)

theorem ordered_tiny (cnt : Nat → Nat) (h : (vals cnt 256).length ≤ 1) : Ordered cnt (vals cnt 256) := ⟨fun i j x y => by omega, vals_mem cnt 256⟩
theorem ordered_of (cnt : Nat → Nat) (h : Nat → Int) (m : Merged (cLT cnt) (fun k => (vals cnt 256).getD k 0) h 0 (vals cnt 256).length) : Ordered cnt ((List.range (vals cnt 256).length).map h) := by
  have hg : ∀ i, i < (vals cnt 256).length → ((List.range (vals cnt 256).length).map h).getD i 0 = h i := fun i hi => by simp [hi]
  refine ⟨fun i j x y => ?_, fun x => ?_⟩
  · have y' : j < (vals cnt 256).length := by simpa using y
    rw [hg i (by omega), hg j y']; exact m.srt i j (Nat.zero_le _) x y'
  · rw [← vals_mem cnt 256 x]
    simp only [List.mem_map, List.mem_range]
    constructor
    · rintro ⟨k, hk, rfl⟩
      obtain ⟨k', _, hk', e⟩ := m.from_ k (Nat.zero_le _) hk
      rw [e]; simp [hk']
    · intro hx
      obtain ⟨k', hk', e⟩ := List.getElem_of_mem hx
      obtain ⟨k, _, hk, e2⟩ := m.to_ k' (Nat.zero_le _) hk'
      exact ⟨k, hk, by rw [e2]; simp [hk', e]⟩

set_option maxHeartbeats 3200000 in
set_option maxRecDepth 100000 in
theorem group_u (cnt : Nat → Nat) (hcn : ∀ v, cnt v ≤ 100000) (K : Nat) (w : World) (hKl : K < w.heap.size) (hK : ∀ v, v < 256 → w.cell? ⟨K, v, none⟩ = some (.int .i64 (cnt v : Int))) :
    Calls Yba.prog 16 #[.pointer (some ⟨K, 0, none⟩)] w fun e w' => GrpPost cnt w e w' := by
  have HK : Hid (∀ v, v < 256 → w.cell? ⟨K, v, none⟩ = some (.int .i64 (cnt v : Int))) := hK
  have HCN : Hid (∀ v, cnt v ≤ 100000) := hcn
  clear hK hcn
  go_enter Yba.func16, Yba.ntmps16
  go_wp2
  obtain ⟨W1, hW1⟩ : ∃ W1, W1 = (w.alloc (.cells #[.pointer (some ⟨K, 0, none⟩)] 49)).alloc (.cells #[.slice none 0 0] 22) := ⟨_, rfl⟩
  rw [← hW1]
  have e1 : W1.cell? ⟨w.heap.size, 0, none⟩ = some (.pointer (some ⟨K, 0, none⟩)) := by rw [hW1]; simp
  have e2 : W1.cell? ⟨w.heap.size + 1, 0, none⟩ = some (.slice none 0 0) := by rw [hW1]; simp
  have e3 : W1.frozen? ⟨w.heap.size + 1, 0, none⟩ = false := by rw [hW1]; simp
  have e4 : W1.heap.size = w.heap.size + 2 := by rw [hW1]; simp
  have e5 : Below w.heap.size w W1 := by rw [hW1]; exact ((Below.refl _ _).alloc (Nat.le_refl _) _).alloc (by simp) _
  clear hW1
  go_loopw [7] (fun ii wr => ∃ (c : Nat) (v : Value), c ≤ 256 ∧ ii = .int .i64 (c : Int) ∧ Own wr (w.heap.size + 2) v (vals cnt c) ∧ Below w.heap.size w wr ∧ w.heap.size + 2 ≤ wr.heap.size ∧ wr.cell? ⟨w.heap.size, 0, none⟩ = some (.pointer (some ⟨K, 0, none⟩)) ∧ wr.cell? ⟨w.heap.size + 1, 0, none⟩ = some v ∧ wr.frozen? ⟨w.heap.size + 1, 0, none⟩ = false) (fun ii _ => 256 - (intOf ii).toNat)
  case atStart => exact ⟨0, .slice none 0 0, Nat.zero_le _, rfl, World.ownsRow_nil _ _ _ _, e5, by omega, e1, e2, e3⟩
  case round =>
    obtain ⟨c, v, hc, rfl, o, hb, hsz, d1, d2, d3⟩ := hrel
    have HO : Hid (Own wr (w.heap.size + 2) v (vals cnt c)) := o
    have HBL : Hid (Below w.heap.size w wr) := hb
    clear o e1 e2 e3 e4 e5
    by_cases hlt : c < 256
    · have k1 : wr.cell? ⟨K, c, none⟩ = some (.int .i64 (cnt c : Int)) := (hb.cell (p := ⟨K, c, none⟩) hKl).trans (HK.out c hlt)
      have hcb := HCN.out c
      have hvs := vals_succ cnt c
      have hvl := vals_len cnt c
      have HVS := (show Hid _ from hvs)
      clear hvs hb
      generalize hcc : cnt c = cc at *
      have hltI : (c : Int) < 256 := by omega
      by_cases hpos : 0 < cc
      · have hposI : (0 : Int) < cc := by omega
        have HPOS := (show Hid _ from hpos)
        clear hpos
        go_wp2
        go_quiet (fail)
        go_wp2_with (first | (at_builtin; refine wpList_append_bytes rfl _ _ rfl (w.heap.size + 2) v (vals cnt c) rfl (by exact (HO.out.drewN _).alloc _) (some ⟨wr.heap.size, 0, none⟩) 1 1 [(c : Int)] rfl rfl ?c1 (fun h => by cases h) (by omega) (by simp; omega) (wr.drewN nq) (by exact (Below.refl _ _).alloc (by simp; omega) _) ?_))
        case c1 =>
          intro j hj
          have : j = 0 := by simpa using hj
          subst this
          exact ⟨_, rfl, by rw [add_eq]; exact World.cell?_alloc_new (wr.drewN nq) _ _ _⟩
        · intro v1 w1 o1 b1 _
          have o1' : Own w1 (w.heap.size + 2) v1 (vals cnt (c + 1)) := by rw [HVS.out, if_pos HPOS.out]; exact o1
          have q1 : w1.cell? ⟨w.heap.size, 0, none⟩ = some (.pointer (some ⟨K, 0, none⟩)) := (b1.cell (p := ⟨w.heap.size, 0, none⟩) (show w.heap.size < w.heap.size + 2 by omega)).trans (by simpa using d1)
          have q2 : w1.cell? ⟨w.heap.size + 1, 0, none⟩ = some v := (b1.cell (p := ⟨w.heap.size + 1, 0, none⟩) (show w.heap.size + 1 < w.heap.size + 2 by omega)).trans (by simpa using d2)
          have q3 : w1.frozen? ⟨w.heap.size + 1, 0, none⟩ = false := (b1.frozen (p := ⟨w.heap.size + 1, 0, none⟩) (show w.heap.size + 1 < w.heap.size + 2 by omega)).trans (by simpa using d3)
          have b1' : Below w.heap.size w w1 := (below_drewN HBL.out nq).trans (b1.mono (by omega))
          have s1 : w.heap.size + 2 ≤ w1.heap.size := by have := b1.size; simp at this; omega
          have hne : v1.ownBlock ≠ some (w.heap.size + 1) := fun h => by have := (o1'.lt _ h).1; omega
          have HO2 : Hid (Own (w1.setCell ⟨w.heap.size + 1, 0, none⟩ v1) (w.heap.size + 2) v1 (vals cnt (c + 1))) := o1'.setCell hne _
          have HB2 : Hid (Below w.heap.size w (w1.setCell ⟨w.heap.size + 1, 0, none⟩ v1)) := b1'.setCell (by show w.heap.size ≤ w.heap.size + 1; omega) _
          have HQ1 : Hid ((w1.setCell ⟨w.heap.size + 1, 0, none⟩ v1).cell? ⟨w.heap.size, 0, none⟩ = some (.pointer (some ⟨K, 0, none⟩))) := (World.cell?_setCell_other _ _ _ _ (by simp)).trans q1
          have HQ2 : Hid ((w1.setCell ⟨w.heap.size + 1, 0, none⟩ v1).cell? ⟨w.heap.size + 1, 0, none⟩ = some v1) := World.cell?_setCell_same _ _ _ q2
          have HQ3 : Hid ((w1.setCell ⟨w.heap.size + 1, 0, none⟩ v1).frozen? ⟨w.heap.size + 1, 0, none⟩ = false) := (World.frozen?_setCell _ _ _ _).trans q3
          obtain ⟨ao1, m1, cp1, rfl⟩ := o1'.slice
          clear o1 o1' b1 b1' hne
          go_wp2
          go_roundw
          case rel => exact ⟨c + 1, _, by omega, by go_num, HO2.out, HB2.out, by simpa [World.setCell] using s1, HQ1.out, HQ2.out, HQ3.out⟩
          case measure => simp [intOf]; omega
      · have hposI : ¬ ((0 : Int) < cc) := by omega
        have HPOS := (show Hid _ from hpos)
        clear hpos
        go_wp2
        go_quiet (fail)
        go_wp2
        go_roundw
        case rel => exact ⟨c + 1, v, by omega, by go_num, by rw [HVS.out, if_neg HPOS.out, List.append_nil]; exact HO.out.drewN _, below_drewN HBL.out _, by simpa using hsz, by simpa using d1, by simpa using d2, by simpa using d3⟩
        case measure => simp [intOf]; omega
    · obtain rfl : c = 256 := by omega
      have hvl := vals_len cnt 256
      clear hlt hc hb
      by_cases hN : (vals cnt 256).length ≤ 1
      · have ho := HO.out
        obtain ⟨ao, m, cp, rfl⟩ := ho.slice
        obtain ⟨rfl, hrd, hnn⟩ := ho.rd
        have key := sst_tiny (.func 22) #[] #[.pointer (some ⟨w.heap.size, 0, none⟩), .pointer (some ⟨w.heap.size + 1, 0, none⟩)] ao (vals cnt 256).length cp wr hN
        have hfin : ∀ w2, Fr (fun _ => False) wr w2 → GrpPost cnt w (.returned (.slice ao (vals cnt 256).length cp)) w2 := by
          intro w2 hf
          refine ⟨ao, cp, vals cnt 256, rfl, fun j hj => ?_, ordered_tiny cnt hN, HBL.out.trans (hf.below (by omega) (fun k hk => hk.elim)), fun x hx => ?_, fun h => (hnn h).2⟩
          · obtain ⟨x, hx, hc⟩ := hrd j hj
            exact ⟨x, hx, (hf.cell (World.block_lt_of_cell? _ _ hc) (fun h => h)).trans hc⟩
          · have := ho.lt x.block (by rw [hx]; rfl)
            have := hf.size
            omega
        have HF := (show Hid _ from hfin)
        clear hfin ho hrd hnn
        go_wp2_with fail
        refine key.mono ?_
        rintro e w2 ⟨rfl, hf⟩
        have d2' : w2.cell? ⟨w.heap.size + 1, 0, none⟩ = some (.slice ao (vals cnt 256).length cp) := (hf.cell (p := ⟨w.heap.size + 1, 0, none⟩) (show w.heap.size + 1 < wr.heap.size by omega) (fun h => h)).trans d2
        have HR := (show Hid _ from HF.out w2 hf)
        clear key hf
        go_wp2
        go_ret
        exact HR.out
      · have ho := HO.out
        obtain ⟨V, cp, rfl⟩ : ∃ V cp, v = .slice (some ⟨V, 0, none⟩) (vals cnt 256).length cp := by
          rcases ho.shape with ⟨_, h⟩ | ⟨g, cap, h, _⟩
          · exact absurd (show (vals cnt 256).length ≤ 1 by rw [h]; simp) hN
          · exact ⟨g, cap, h⟩
        obtain ⟨hA, _, hVb, hVl⟩ := ho.arrF
        have hless : LessOK wr V (vals cnt 256).length (.pointer (some ⟨w.heap.size, 0, none⟩)) (.pointer (some ⟨w.heap.size + 1, 0, none⟩)) (clt cnt) := by
          intro w3 f3 hS3 hb3 i j hi hj
          refine less_u cnt HCN.out w.heap.size (w.heap.size + 1) K V (vals cnt 256).length cp f3 w3 ?_ ?_ (fun v hv => ?_) hS3.arr hb3 i j hi hj hvl
          · exact (hS3.cell (p := ⟨w.heap.size, 0, none⟩) (show w.heap.size < wr.heap.size by omega) (show w.heap.size ≠ V by omega)).trans d1
          · exact (hS3.cell (p := ⟨w.heap.size + 1, 0, none⟩) (show w.heap.size + 1 < wr.heap.size by omega) (show w.heap.size + 1 ≠ V by omega)).trans d2
          · exact ((hS3.cell (p := ⟨K, v, none⟩) (show K < wr.heap.size by omega) (show K ≠ V by omega)).trans (HBL.out.cell (p := ⟨K, v, none⟩) hKl)).trans (HK.out v hv)
        have key := sst_u (cLT cnt) (cLT_trans cnt) (clt cnt) (c_agree cnt) _ _ V (vals cnt 256).length cp (fun k => (vals cnt 256).getD k 0) wr (by omega) hvl hA hVl hless (vals_byte cnt 256 (Nat.le_refl _)) (vals_asc cnt 256)
        have hfin : ∀ w2, StPost (cLT cnt) V (vals cnt 256).length (fun k => (vals cnt 256).getD k 0) wr (.returned (.tuple #[])) w2 → GrpPost cnt w (.returned (.slice (some ⟨V, 0, none⟩) (vals cnt 256).length cp)) w2 := by
          rintro w2 ⟨_, h, hS, hb2, m⟩
          refine ⟨some ⟨V, 0, none⟩, cp, (List.range (vals cnt 256).length).map h, by simp, fun j hj => ⟨_, rfl, ?_⟩, ordered_of cnt h m, HBL.out.trans (hS.fr.below (by omega) (fun k hk => by have : k = V := hk; omega)), fun x hx => ?_, fun h => by cases h⟩
          · have hj' : j < (vals cnt 256).length := by simpa using hj
            rw [add_eq, Nat.zero_add, (hS.arr j hj').1]; simp [hj']
          · cases hx; exact ⟨show w.heap.size ≤ V by omega, hS.lt⟩
        have HF := (show Hid _ from hfin)
        clear hfin ho hA hless
        go_wp2_with fail
        refine key.mono ?_
        rintro e w2 ⟨rfl, h, hS, hb2, m⟩
        have d2' : w2.cell? ⟨w.heap.size + 1, 0, none⟩ = some (.slice (some ⟨V, 0, none⟩) (vals cnt 256).length cp) := (hS.cell (p := ⟨w.heap.size + 1, 0, none⟩) (show w.heap.size + 1 < wr.heap.size by omega) (show w.heap.size + 1 ≠ V by omega)).trans d2
        have HR := (show Hid _ from HF.out w2 ⟨rfl, h, hS, hb2, m⟩)
        clear key hS hb2 m
        go_wp2
        go_ret
        exact HR.out
end Go.Proofs.Ybulkcmdi
