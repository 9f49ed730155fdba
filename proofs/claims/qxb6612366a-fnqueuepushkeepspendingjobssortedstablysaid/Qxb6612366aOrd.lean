/-
  ORDERS: a region that draws its order, loads from cells that ITS LAST OPERATION writes: the condition S is asked behind every operation but that one (number x), which waits for each operation that is taken first.
-/
import Derived.Deep.RegionHeld3
namespace Go.Proofs.Qxb6612366a
open Go

section
variable {P : Program} {ops : Array Oper} {Q : Exit → Act → World → Prop} {md : Region.Mode} {S : World → Prop} {x : Nat}

/-- Whatever order is picked from here on; S holds behind every operation that is carried out, number x alone may break it. -/
def wpAnyX (P : Program) (md : Region.Mode) (ops : Array Oper) (Q : Exit → Act → World → Prop) (S : World → Prop) (x : Nat) : Nat → Array Bool → Act → World → Prop
  | 0, listed, a, w => Region.ready md ops listed = [] ∧ Q .normal a w
  | fuel + 1, listed, a, w =>
    (Region.ready md ops listed = [] → Q .normal a w) ∧
    ∀ i ∈ Region.ready md ops listed, wpOp P ops Q i (fun a' w' => (i ≠ x → S w') ∧ wpAnyX P md ops Q S x fuel (listed.setIfInBounds i true) a' w') a w

theorem wpAny_of_x : ∀ (fuel : Nat) (listed : Array Bool) (a : Act) (w : World), wpAnyX P md ops Q S x fuel listed a w → wpAny P md ops Q fuel listed a w
  | 0, _, _, _, h => h
  | fuel + 1, _, _, _, h => ⟨h.1, fun i hi => wpOp_mono (fun a' w' h' => wpAny_of_x fuel _ a' w' h'.2) (h.2 i hi)⟩

/-- Number x waits for number i. -/
def waitsB (md : Region.Mode) (ops : Array Oper) (x i : Nat) : Bool :=
  match ops[x]? with
  | some o => o.after.any fun e => Region.binds md e && e.on == i
  | none => false

/-- Nothing is at once listed and not listed. -/
theorem listed_not_both {l : Array Bool} {i : Nat} (h : l.getD i true = false) (k : l.getD i false = true) : False := by
  rw [Array.getD_eq_getD_getElem?] at h k
  cases e : l[i]? <;> simp_all
/-- While i has not come up, what waits for it may not come up. -/
theorem not_ready_of_waits {i j : Nat} {l : Array Bool} (hw : waitsB md ops j i = true) (hi : i ∈ Region.ready md ops l) : j ∉ Region.ready md ops l := fun hj => by
  obtain ⟨_, oj, hoj, hall⟩ := mem_ready.1 hj
  unfold waitsB at hw
  rw [hoj] at hw
  obtain ⟨e, he, hb⟩ := Array.any_eq_true'.1 hw
  obtain ⟨hb1, hb2⟩ := Bool.and_eq_true_iff.1 hb
  have hon : e.on = i := beq_iff_eq.1 hb2
  exact listed_not_both (mem_ready.1 hi).1 (hon ▸ hall e he hb1)
/-- What does not wait for i has no edge to it. -/
theorem no_edge {i j : Nat} {oj : Oper} (hoj : ops[j]? = some oj) (hw : waitsB md ops j i = false) (e : Edge) (he : e ∈ oj.after) (hb : Region.binds md e = true) : e.on ≠ i := fun hon => by
  have : waitsB md ops j i = true := by
    unfold waitsB
    rw [hoj]
    exact Array.any_eq_true'.2 ⟨e, he, by simp [hb, hon]⟩
  rw [hw] at this
  cases this
theorem unlisted_before {l : Array Bool} {j k : Nat} (hj : l.getD j true = false) (h : (l.setIfInBounds j true).getD k true = false) : l.getD k true = false := by
  by_cases e : j = k
  · exact e ▸ hj
  · rwa [getD_set_ne true e] at h

/-- No other operation that may come before i looks at what i leaves. -/
def Clear (md : Region.Mode) (ops : Array Oper) (i : Nat) (oi : Oper) (l : Array Bool) : Prop :=
  ∀ j oj, ops[j]? = some oj → j ≠ i → l.getD j true = false → (∀ e ∈ oj.after, Region.binds md e = true → e.on ≠ i) → oi.apart ops oj = true

/-- Number i, for which x waits, may be taken first: its value hangs on S alone, and whoever comes up before it keeps S. -/
theorem wpAnyX_first {i : Nat} {oi : Oper} {v : Value} (hi : ops[i]? = some oi) (hsel : ∀ (j : Nat) (o : Oper) cs b, ops[j]? = some o → o.op ≠ .select cs b) (hx : waitsB md ops x i = true)
    (hQ : ∀ c a w, Q (.panic c) (a.put oi.dst v) w → Q (.panic c) a w) (fuel : Nat) :
    ∀ (l : Array Bool) (a : Act) (w : World), Clear md ops i oi l → i ∈ Region.ready md ops l → YieldsIf P ops S oi v a → S w →
      wpAnyX P md ops Q S x fuel (l.setIfInBounds i true) (a.put oi.dst v) w → wpAnyX P md ops Q S x (fuel + 1) l a w := by
  induction fuel with
  | zero =>
    intro l a w _ hr hy hS H
    refine ⟨fun h0 => absurd hr (by simp [h0]), fun j hj => ?_⟩
    by_cases e : j = i
    · exact e ▸ hy.wpOp hi hS ⟨fun _ => hS, H⟩
    · exact absurd (ready_mono hj e) (by simp [H.1])
  | succ fuel ih =>
    intro l a w hc hr hy hS H
    refine ⟨fun h0 => absurd hr (by simp [h0]), fun j hj => ?_⟩
    by_cases e : j = i
    · exact e ▸ hy.wpOp hi hS ⟨fun _ => hS, H⟩
    · obtain ⟨hun, oj, hoj, _⟩ := mem_ready.1 hj
      have hw : waitsB md ops j i = false := by
        cases h : waitsB md ops j i
        · rfl
        · exact absurd hj (not_ready_of_waits h hr)
      have hjx : j ≠ x := fun h => not_ready_of_waits hx hr (h ▸ hj)
      have step := wpOp_putIf hoj (hc j oj hoj e hun (no_edge hoj hw)) (hsel i oi · · hi) (hsel j oj · · hoj) hQ hy (H.2 j (ready_mono hj e))
      refine wpOp_mono (fun a' w' h => ?_) step
      obtain ⟨hy', hS', H'⟩ := h
      refine ⟨hS', ih _ a' w' (fun k ok hk hki hu => hc k ok hk hki (unlisted_before hun hu)) (ready_mono hr (Ne.symm e)) hy' (hS' hjx) ?_⟩
      rwa [Array.setIfInBounds_comm _ _ e]

theorem wpAnyX_take {i : Nat} {oi : Oper} {v : Value} {fuel : Nat} {listed : Array Bool} {a : Act} {w : World} (hi : ops[i]? = some oi)
    (hs : Region.noSelect ops = true) (hf : Region.free md ops listed i = true) (hr : (Region.ready md ops listed).contains i = true) (hx : waitsB md ops x i = true)
    (hQ : ∀ c a w, Q (.panic c) (a.put oi.dst v) w → Q (.panic c) a w) (hy : YieldsIf P ops S oi v a) (hS : S w)
    (h : wpAnyX P md ops Q S x fuel (listed.setIfInBounds i true) (a.put oi.dst v) w) : wpAnyX P md ops Q S x (fuel + 1) listed a w :=
  wpAnyX_first hi (Region.noSelect_spec hs) hx hQ fuel listed a w (Region.free_spec hi hf) (by simpa using hr) hy hS h

theorem wpAnyX_one {i : Nat} {fuel : Nat} {listed : Array Bool} {a : Act} {w : World} (hr : Region.ready md ops listed = [i])
    (h : wpOp P ops Q i (fun a' w' => (i ≠ x → S w') ∧ wpAnyX P md ops Q S x fuel (listed.setIfInBounds i true) a' w') a w) : wpAnyX P md ops Q S x (fuel + 1) listed a w :=
  ⟨fun h0 => (by rw [hr] at h0; cases h0), fun j hj => by rw [hr] at hj; simp at hj; subst hj; exact h⟩

theorem wpAnyX_two {i j : Nat} {fuel : Nat} {listed : Array Bool} {a : Act} {w : World} (hr : Region.ready md ops listed = [i, j])
    (h1 : wpOp P ops Q i (fun a' w' => (i ≠ x → S w') ∧ wpAnyX P md ops Q S x fuel (listed.setIfInBounds i true) a' w') a w)
    (h2 : wpOp P ops Q j (fun a' w' => (j ≠ x → S w') ∧ wpAnyX P md ops Q S x fuel (listed.setIfInBounds j true) a' w') a w) : wpAnyX P md ops Q S x (fuel + 1) listed a w :=
  ⟨fun h0 => (by rw [hr] at h0; cases h0), fun k hk => by
    rw [hr] at hk
    simp at hk
    rcases hk with rfl | rfl
    · exact h1
    · exact h2⟩

theorem wpAnyX_done {listed : Array Bool} {a : Act} {w : World} (hr : Region.ready md ops listed = []) (h : Q .normal a w) :
    ∀ fuel, wpAnyX P md ops Q S x fuel listed a w
  | 0 => ⟨hr, h⟩
  | _ + 1 => ⟨fun _ => h, by rw [hr]; simp⟩

/-- One operation is carried out; the way back is kept shut meanwhile. -/
theorem wpOp_step {i : Nat} {o : Oper} {K : Act → World → Prop} {a : Act} {w : World} (ho : ops[i]? = some o)
    (h : ∀ K' : Act → World → Prop, Shut (∀ a w, K a w → K' a w) → if Region.wanted o (yielded ops a.tmps) = true then Oper.wp P o a w K' Q else K' (a.put o.dst undef) w) : wpOp P ops Q i K a w := by
  have := h K (fun _ _ h => h)
  unfold wpOp
  simp only [ho]
  split
  · rename_i hw; rw [if_pos hw] at this; exact .inl this
  · rename_i hw; rw [if_neg hw] at this; exact this

theorem wp_region_x {id : Nat} {a : Act} {w : World} (hm : P.follows .mixedOrders = true)
    (h : wpAnyX P .any ops Q S x ops.size (Array.replicate ops.size false) a w.drew) : (Code.region id ops true).wp P Q a w :=
  wp_region_any hm (wpAny_of_x _ _ _ _ h)
end
end Go.Proofs.Qxb6612366a
