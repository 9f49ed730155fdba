/-
  ORDERS: a region that draws its order, loads from cells that ITS LAST OPERATION writes: the condition S is asked behind every operation but that one (number x), which waits for each operation that is taken first.
-/
import Derived.Deep.RegionHeld3
namespace Go.Proofs.Qxb6612366a
open Go

section
variable {P : Program} {ops : Array Oper} {Q : Exit → Act → World → Prop} {md : Region.Mode} {S : World → Prop} {x : Nat}

/-- Whatever order is picked from here on; S holds behind every operation that is carried out, number x alone may break it. -/
def wpAnyX (P : Program) (md : Region.Mode) (ops : Array Oper) (Q : Exit → Act → World → Prop) (S : World → Prop) (x : Nat) : Nat → Array Bool → Act → World → Prop
  | 0, listed, a, w => Region.ready md ops listed = [] ∧ Q .normal a w
  | fuel + 1, listed, a, w =>
    (Region.ready md ops listed = [] → Q .normal a w) ∧
    ∀ i ∈ Region.ready md ops listed, wpOp P ops Q i (fun a' w' => (i ≠ x → S w') ∧ wpAnyX P md ops Q S x fuel (listed.setIfInBounds i true) a' w') a w

theorem wpAny_of_x : ∀ (fuel : Nat) (listed : Array Bool) (a : Act) (w : World), wpAnyX P md ops Q S x fuel listed a w → wpAny P md ops Q fuel listed a w
  | 0, _, _, _, h => h
  | fuel + 1, _, _, _, h => ⟨h.1, fun i hi => wpOp_mono (fun a' w' h' => wpAny_of_x fuel _ a' w' h'.2) (h.2 i hi)⟩

/-- Number x waits for number i. -/
def waitsB (md : Region.Mode) (ops : Array Oper) (x i : Nat) : Bool :=
  match ops[x]? with
  | some o => o.after.any fun e => Region.binds md e && e.on == i
  | none => false

/-- While i has not come up, what waits for it may not come up. -/
theorem not_ready_of_waits {i j : Nat} {listed : Array Bool} (hw : waitsB md ops j i = true) (hi : i ∈ Region.ready md ops listed) : j ∉ Region.ready md ops listed := by
  intro hj
  obtain ⟨_, oj, hoj, hall⟩ := mem_ready.1 hj
  have hun := (mem_ready.1 hi).1
  unfold waitsB at hw
  rw [hoj] at hw
  obtain ⟨e, he, hb⟩ := Array.any_eq_true'.1 hw
  simp only [Bool.and_eq_true, beq_iff_eq] at hb
  have h1 := hall e he hb.1
  rw [hb.2] at h1
  rcases Nat.lt_or_ge i listed.size with h' | h'
  · simp [h'] at hun h1; rw [hun] at h1; cases h1
  · simp [Array.getElem?_eq_none h'] at h1

theorem wpAnyX_first {i : Nat} {oi : Oper} {v : Value} (hi : ops[i]? = some oi) (hsel : ∀ (j : Nat) (o : Oper) cs b, ops[j]? = some o → o.op ≠ .select cs b) (hx : waitsB md ops x i = true)
    (hQ : ∀ c a w, Q (.panic c) (a.put oi.dst v) w → Q (.panic c) a w) :
    ∀ (fuel : Nat) (listed : Array Bool) (a : Act) (w : World),
      (∀ j oj, ops[j]? = some oj → j ≠ i → listed.getD j true = false → (∀ e ∈ oj.after, Region.binds md e = true → e.on ≠ i) → oi.apart ops oj = true) →
      i ∈ Region.ready md ops listed → YieldsIf P ops S oi v a → S w →
      wpAnyX P md ops Q S x fuel (listed.setIfInBounds i true) (a.put oi.dst v) w → wpAnyX P md ops Q S x (fuel + 1) listed a w := by
  intro fuel
  induction fuel with
  | zero =>
    intro listed a w _ hr hy hS H
    refine ⟨fun h => (by rw [h] at hr; cases hr), fun j hj => ?_⟩
    by_cases hji : j = i
    · subst hji; exact hy.wpOp hi hS ⟨fun _ => hS, H⟩
    · have := ready_mono hj hji
      rw [H.1] at this
      cases this
  | succ fuel ih =>
    intro listed a w hfree hr hy hS H
    refine ⟨fun h => (by rw [h] at hr; cases hr), fun j hj => ?_⟩
    by_cases hji : j = i
    · subst hji; exact hy.wpOp hi hS ⟨fun _ => hS, H⟩
    · have hjx : j ≠ x := fun e => not_ready_of_waits hx hr (e ▸ hj)
      have h1 := H.2 j (ready_mono hj hji)
      obtain ⟨hjun, oj, hoj, hall⟩ := mem_ready.1 hj
      have hnot : ∀ e ∈ oj.after, Region.binds md e = true → e.on ≠ i := fun e he hb heq => by
        have h1 := hall e he hb
        have h0 := (mem_ready.1 hr).1
        rw [heq] at h1
        rcases Nat.lt_or_ge i listed.size with h' | h'
        · simp [h'] at h0 h1; rw [h0] at h1; cases h1
        · simp [Array.getElem?_eq_none h'] at h1
      have h2 := wpOp_putIf hoj (hfree j oj hoj hji hjun hnot) (fun cs b => hsel i oi cs b hi) (fun cs b => hsel j oj cs b hoj) hQ hy h1
      have hfree' : ∀ k ok, ops[k]? = some ok → k ≠ i → (listed.setIfInBounds j true).getD k true = false →
          (∀ e ∈ ok.after, Region.binds md e = true → e.on ≠ i) → oi.apart ops ok = true := fun k ok hk hki hun hno => by
        refine hfree k ok hk hki ?_ hno
        by_cases hjk : j = k
        · subst hjk; exact hjun
        · rw [getD_set_ne true hjk] at hun; exact hun
      refine wpOp_mono (fun a' w' h3 => ⟨h3.2.1, ih (listed.setIfInBounds j true) a' w' hfree' (ready_mono hr (Ne.symm hji)) h3.1 (h3.2.1 hjx) ?_⟩) h2
      rw [Array.setIfInBounds_comm _ _ hji]
      exact h3.2.2

theorem wpAnyX_take {i : Nat} {oi : Oper} {v : Value} {fuel : Nat} {listed : Array Bool} {a : Act} {w : World} (hi : ops[i]? = some oi)
    (hs : Region.noSelect ops = true) (hf : Region.free md ops listed i = true) (hr : (Region.ready md ops listed).contains i = true) (hx : waitsB md ops x i = true)
    (hQ : ∀ c a w, Q (.panic c) (a.put oi.dst v) w → Q (.panic c) a w) (hy : YieldsIf P ops S oi v a) (hS : S w)
    (h : wpAnyX P md ops Q S x fuel (listed.setIfInBounds i true) (a.put oi.dst v) w) : wpAnyX P md ops Q S x (fuel + 1) listed a w :=
  wpAnyX_first hi (Region.noSelect_spec hs) hx hQ fuel listed a w (Region.free_spec hi hf) (by simpa using hr) hy hS h

theorem wpAnyX_one {i : Nat} {fuel : Nat} {listed : Array Bool} {a : Act} {w : World} (hr : Region.ready md ops listed = [i])
    (h : wpOp P ops Q i (fun a' w' => (i ≠ x → S w') ∧ wpAnyX P md ops Q S x fuel (listed.setIfInBounds i true) a' w') a w) : wpAnyX P md ops Q S x (fuel + 1) listed a w :=
  ⟨fun h0 => (by rw [hr] at h0; cases h0), fun j hj => by rw [hr] at hj; simp at hj; subst hj; exact h⟩

theorem wpAnyX_two {i j : Nat} {fuel : Nat} {listed : Array Bool} {a : Act} {w : World} (hr : Region.ready md ops listed = [i, j])
    (h1 : wpOp P ops Q i (fun a' w' => (i ≠ x → S w') ∧ wpAnyX P md ops Q S x fuel (listed.setIfInBounds i true) a' w') a w)
    (h2 : wpOp P ops Q j (fun a' w' => (j ≠ x → S w') ∧ wpAnyX P md ops Q S x fuel (listed.setIfInBounds j true) a' w') a w) : wpAnyX P md ops Q S x (fuel + 1) listed a w :=
  ⟨fun h0 => (by rw [hr] at h0; cases h0), fun k hk => by
    rw [hr] at hk
    simp at hk
    rcases hk with rfl | rfl
    · exact h1
    · exact h2⟩

theorem wpAnyX_done {listed : Array Bool} {a : Act} {w : World} (hr : Region.ready md ops listed = []) (h : Q .normal a w) :
    ∀ fuel, wpAnyX P md ops Q S x fuel listed a w
  | 0 => ⟨hr, h⟩
  | _ + 1 => ⟨fun _ => h, by rw [hr]; simp⟩

/-- One operation is carried out; the way back is kept shut meanwhile. -/
theorem wpOp_step {i : Nat} {o : Oper} {K : Act → World → Prop} {a : Act} {w : World} (ho : ops[i]? = some o)
    (h : ∀ K' : Act → World → Prop, Shut (∀ a w, K a w → K' a w) → if Region.wanted o (yielded ops a.tmps) = true then Oper.wp P o a w K' Q else K' (a.put o.dst undef) w) : wpOp P ops Q i K a w := by
  have := h K (fun _ _ h => h)
  unfold wpOp
  simp only [ho]
  split
  · rename_i hw; rw [if_pos hw] at this; exact .inl this
  · rename_i hw; rw [if_neg hw] at this; exact this

theorem wp_region_x {id : Nat} {a : Act} {w : World} (hm : P.follows .mixedOrders = true)
    (h : wpAnyX P .any ops Q S x ops.size (Array.replicate ops.size false) a w.drew) : (Code.region id ops true).wp P Q a w :=
  wp_region_any hm (wpAny_of_x _ _ _ _ h)
end
end Go.Proofs.Qxb6612366a
