/-
  A REGION THAT DRAWS ITS ORDER AND ENDS IN A STORE: the kit's 'wpAnyH' (Derived/OrdersHeld.lean: a condition S on the world that is shown anew behind every operation) WITH ONE OPERATION z EXEMPT: behind z nothing of S is asked. An operation that z waits for may be taken first all the same: z cannot come up ahead of it.
-/
import Derived.OrdersHeld
import Derived.Deep.RegionHeld3
namespace Go.Proofs.Ybulkcmcu
open Go

section
variable {P : Program} {ops : Array Oper} {Q : Exit → Act → World → Prop} {md : Region.Mode} {S : World → Prop} {z : Nat}

def wpAnyG (P : Program) (md : Region.Mode) (ops : Array Oper) (Q : Exit → Act → World → Prop) (S : World → Prop) (z : Nat) : Nat → Array Bool → Act → World → Prop
  | 0, listed, a, w => Region.ready md ops listed = [] ∧ Q .normal a w
  | fuel + 1, listed, a, w =>
    (Region.ready md ops listed = [] → Q .normal a w) ∧
    ∀ i ∈ Region.ready md ops listed, wpOp P ops Q i (fun a' w' => (i = z ∨ S w') ∧ wpAnyG P md ops Q S z fuel (listed.setIfInBounds i true) a' w') a w

theorem wpAny_of_G : ∀ (fuel : Nat) (listed : Array Bool) (a : Act) (w : World), wpAnyG P md ops Q S z fuel listed a w → wpAny P md ops Q fuel listed a w
  | 0, _, _, _, h => h
  | fuel + 1, _, _, _, h => ⟨h.1, fun i hi => wpOp_mono (fun a' w' h' => wpAny_of_G fuel _ a' w' h'.2) (h.2 i hi)⟩

/-- z waits for i. -/
def waits (md : Region.Mode) (ops : Array Oper) (z i : Nat) : Bool :=
  match ops[z]? with
  | some oz => oz.after.any fun e => Region.binds md e && e.on == i
  | none => false

theorem waits_spec {i : Nat} {listed : Array Bool} (h : waits md ops z i = true) (hz : z ∈ Region.ready md ops listed) : listed.getD i false = true := by
  obtain ⟨_, oz, hoz, hall⟩ := mem_ready.1 hz
  unfold waits at h
  rw [hoz] at h
  obtain ⟨e, he, hb⟩ := Array.any_eq_true'.1 h
  simp only [Bool.and_eq_true, beq_iff_eq] at hb
  rw [← hb.2]
  exact hall e he hb.1

theorem wpAnyG_first {i : Nat} {oi : Oper} {v : Value} (hi : ops[i]? = some oi) (hsel : ∀ (j : Nat) (o : Oper) cs b, ops[j]? = some o → o.op ≠ .select cs b)
    (hQ : ∀ c a w, Q (.panic c) (a.put oi.dst v) w → Q (.panic c) a w) (hz : waits md ops z i = true) :
    ∀ (fuel : Nat) (listed : Array Bool) (a : Act) (w : World),
      (∀ j oj, ops[j]? = some oj → j ≠ i → listed.getD j true = false → (∀ e ∈ oj.after, Region.binds md e = true → e.on ≠ i) → oi.apart ops oj = true) →
      i ∈ Region.ready md ops listed → YieldsIf P ops S oi v a → S w →
      wpAnyG P md ops Q S z fuel (listed.setIfInBounds i true) (a.put oi.dst v) w → wpAnyG P md ops Q S z (fuel + 1) listed a w := by
  intro fuel
  induction fuel with
  | zero =>
    intro listed a w _ hr hy hS H
    refine ⟨fun h => (by rw [h] at hr; cases hr), fun j hj => ?_⟩
    by_cases hji : j = i
    · subst hji; exact hy.wpOp hi hS ⟨Or.inr hS, H⟩
    · have := ready_mono hj hji
      rw [H.1] at this
      cases this
  | succ fuel ih =>
    intro listed a w hfree hr hy hS H
    refine ⟨fun h => (by rw [h] at hr; cases hr), fun j hj => ?_⟩
    by_cases hji : j = i
    · subst hji; exact hy.wpOp hi hS ⟨Or.inr hS, H⟩
    · have h1 := H.2 j (ready_mono hj hji)
      obtain ⟨hjun, oj, hoj, hall⟩ := mem_ready.1 hj
      have hun : listed.getD i false = false := by
        have h0 := (mem_ready.1 hr).1
        rcases Nat.lt_or_ge i listed.size with h' | h'
        · simp [h'] at h0 ⊢; exact h0
        · simp [Array.getElem?_eq_none h']
      have hjz : j ≠ z := fun e => by
        subst e
        have := waits_spec hz hj
        rw [hun] at this
        cases this
      have hnot : ∀ e ∈ oj.after, Region.binds md e = true → e.on ≠ i := fun e he hb heq => by
        have h1 := hall e he hb
        rw [heq, hun] at h1
        cases h1
      have h2 := wpOp_putIf hoj (hfree j oj hoj hji hjun hnot) (fun cs b => hsel i oi cs b hi) (fun cs b => hsel j oj cs b hoj) hQ hy h1
      have hfree' : ∀ k ok, ops[k]? = some ok → k ≠ i → (listed.setIfInBounds j true).getD k true = false →
          (∀ e ∈ ok.after, Region.binds md e = true → e.on ≠ i) → oi.apart ops ok = true := fun k ok hk hki hun hno => by
        refine hfree k ok hk hki ?_ hno
        by_cases hjk : j = k
        · subst hjk; exact hjun
        · rw [getD_set_ne true hjk] at hun; exact hun
      refine wpOp_mono (fun a' w' h3 => ?_) h2
      have hS' : S w' := h3.2.1.resolve_left hjz
      refine ⟨h3.2.1, ih (listed.setIfInBounds j true) a' w' hfree' (ready_mono hr (Ne.symm hji)) h3.1 hS' ?_⟩
      rw [Array.setIfInBounds_comm _ _ hji]
      exact h3.2.2

theorem wpAnyG_take {i : Nat} {oi : Oper} {v : Value} {fuel : Nat} {listed : Array Bool} {a : Act} {w : World} (hi : ops[i]? = some oi)
    (hs : Region.noSelect ops = true) (hf : Region.free md ops listed i = true) (hr : (Region.ready md ops listed).contains i = true) (hz : waits md ops z i = true)
    (hQ : ∀ c a w, Q (.panic c) (a.put oi.dst v) w → Q (.panic c) a w) (hS : S w) (hw : Region.wanted oi (yielded ops a.tmps) = true) (hy : ∀ w, S w → (execOp a.eval oi).run P w = .ok (.value v) w)
    (h : wpAnyG P md ops Q S z fuel (listed.setIfInBounds i true) (a.put oi.dst v) w) : wpAnyG P md ops Q S z (fuel + 1) listed a w :=
  wpAnyG_first hi (Region.noSelect_spec hs) hQ hz fuel listed a w (Region.free_spec hi hf) (by simpa using hr) (Or.inl ⟨hw, hy⟩) hS h

/-- One alone may come up, and S is to be shown behind it. -/
theorem wpAnyG_one {i : Nat} {o : Oper} {fuel : Nat} {listed : Array Bool} {a : Act} {w : World} (hr : Region.ready md ops listed = [i]) (ho : ops[i]? = some o)
    (h : ∀ K : Act → World → Prop, Shut (∀ a w, S w → (S w → wpAnyG P md ops Q S z fuel (listed.setIfInBounds i true) a w) → K a w) → if Region.wanted o (yielded ops a.tmps) = true then Oper.wp P o a w K Q else K (a.put o.dst undef) w) :
    wpAnyG P md ops Q S z (fuel + 1) listed a w :=
  ⟨fun h0 => (by rw [hr] at h0; cases h0), fun j hj => by
    rw [hr] at hj
    obtain rfl : j = i := by simpa using hj
    exact wpOp_step ho (fun K' hK => h K' (fun a w hS hW => hK a w ⟨Or.inr hS, hW hS⟩))⟩

/-- z alone may come up. -/
theorem wpAnyG_last {o : Oper} {fuel : Nat} {listed : Array Bool} {a : Act} {w : World} (hr : Region.ready md ops listed = [z]) (ho : ops[z]? = some o)
    (h : ∀ K : Act → World → Prop, Shut (∀ a w, wpAnyG P md ops Q S z fuel (listed.setIfInBounds z true) a w → K a w) → if Region.wanted o (yielded ops a.tmps) = true then Oper.wp P o a w K Q else K (a.put o.dst undef) w) :
    wpAnyG P md ops Q S z (fuel + 1) listed a w :=
  ⟨fun h0 => (by rw [hr] at h0; cases h0), fun j hj => by
    rw [hr] at hj
    obtain rfl : j = z := by simpa using hj
    exact wpOp_step ho (fun K' hK => h K' (fun a w hW => hK a w ⟨Or.inl rfl, hW⟩))⟩

theorem wpAnyG_done {listed : Array Bool} {a : Act} {w : World} (hr : Region.ready md ops listed = []) (h : Q .normal a w) :
    ∀ fuel, wpAnyG P md ops Q S z fuel listed a w
  | 0 => ⟨hr, h⟩
  | _ + 1 => ⟨fun _ => h, by rw [hr]; simp⟩

theorem wp_region_G {id : Nat} {a : Act} {w : World} (z : Nat) (S : World → Prop) (hm : P.follows .mixedOrders = true)
    (h : wpAnyG P .any ops Q S z ops.size (Array.replicate ops.size false) a w.drew) : (Code.region id ops true).wp P Q a w :=
  wp_region_any hm (wpAny_of_G _ _ _ _ h)
end
end Go.Proofs.Ybulkcmcu
