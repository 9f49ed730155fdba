/-
  WALKS (g): the collector (a closure), older, eachOlder, ZZeachOlder.
-/
import Derived.Test.Qxb6609258aWf
namespace Go.Proofs.Qxb6609258a
open Go.RowKit

def intsV (xs : List Nat) : List Value := xs.map fun k : Nat => .int .i64 (k : Int)
/-- The captured variable 'out' (block c) holds a slice of the call's own that reads xs. -/
def OutIs (w : World) (c : Nat) (xs : List Nat) : Prop := ∃ v, w.heap[c]? = some (.cells #[v] 28 (0, 0)) ∧ w.ownsRow (c + 1) 3 1 v xs.length (intsV xs)
/-- What the collector leaves alone: all blocks below c; and every other block that is no row of ints. -/
structure Fr (c : Nat) (w w' : World) : Prop where
  os : w'.os = w.os
  tape : w'.tape = w.tape
  output : w'.output = w.output
  size : w.heap.size ≤ w'.heap.size
  low : ∀ k, k < c → w'.heap[k]? = w.heap[k]?
  box : ∀ k, k < w.heap.size → k ≠ c → (∀ cs fr, w.heap[k]? ≠ some (.cells cs 3 fr)) → w'.heap[k]? = w.heap[k]?
theorem Fr.refl (c : Nat) (w : World) : Fr c w w := ⟨rfl, rfl, rfl, Nat.le_refl _, fun _ _ => rfl, fun _ _ _ _ => rfl⟩
theorem Fr.trans {c : Nat} {a b d : World} (h : Fr c a b) (k : Fr c b d) : Fr c a d :=
  ⟨k.os.trans h.os, k.tape.trans h.tape, k.output.trans h.output, Nat.le_trans h.size k.size, fun i hi => (k.low i hi).trans (h.low i hi),
    fun i hi hc hn => by
      have e := h.box i hi hc hn
      exact (k.box i (Nat.lt_of_lt_of_le hi h.size) hc (by rw [e]; exact hn)).trans e⟩
theorem Fr.drewN {c q : Nat} {a b : World} (h : Fr c a b) : Fr c a (b.drewN q) := ⟨h.os, h.tape, h.output, h.size, h.low, h.box⟩
theorem Fr.alloc {c : Nat} {a b : World} (h : Fr c a b) (hc : c ≤ b.heap.size) (o : Obj) : Fr c a (b.alloc o) :=
  h.trans ⟨rfl, rfl, rfl, by simp, fun k hk => Below.heap_alloc _ _ _ (by omega), fun k hk _ _ => Below.heap_alloc _ _ _ hk⟩
theorem Fr.below {c : Nat} {w w' : World} (h : Fr c w w') : Below c w w' := ⟨h.os, h.tape, h.output, h.size, h.low⟩
theorem OutIs.drewN {w : World} {c q : Nat} {xs : List Nat} (h : OutIs w c xs) : OutIs (w.drewN q) c xs := h
theorem OutIs.lt {w : World} {c : Nat} {xs : List Nat} (h : OutIs w c xs) : c < w.heap.size := h.elim fun _ hv => lt_of_block hv.1
theorem OutIs.alloc {w : World} {c : Nat} {xs : List Nat} (h : OutIs w c xs) (o : Obj) : OutIs (w.alloc o) c xs := by
  have hl := h.lt
  obtain ⟨v, h1, h2⟩ := h
  exact ⟨v, (Below.heap_alloc _ _ _ hl).trans h1, h2.alloc o⟩

set_option maxRecDepth 100000 in
theorem clos_any (c i : Nat) (xs : List Nat) (w : World) (h : OutIs w c xs) (hx : xs.length ≤ 4096) :
    Calls Try.prog 22 #[.int .i64 (i : Int), .pointer (some ⟨c, 0, none⟩)] w fun e w' => e = .returned (.tuple #[]) ∧ OutIs w' c (xs ++ [i]) ∧ Fr c w w' := by
  obtain ⟨v, hv, hown⟩ := h
  have cW := cell_of_one hv
  have hlt := lt_of_block hv
  obtain ⟨i0, hi, hz0, hz1, hz2⟩ := info_parts Try.info3
  go_enter Try.func22, Try.ntmps22
  go_wp2_with (at_builtin; refine wpList_append_own _ rfl _ _ 28 rfl (c + 1) 3 i0 (.int .i64 0) 1 8 Try.underlying28 hi hz0 hz1 hz2 rfl (by decide) _ _ _ rfl (hown.alloc _) ⟨w.heap.size, 0, none⟩ 1 1 [.int .i64 (i : Int)] rfl rfl ?c1 ?c2 ?c3 ?c4 ?c5 ?_)
  case c1 =>
    intro j u hj
    match j, hj with
    | 0, hj => simp at hj; subst hj; simp [Addr.add]
  case c2 => intro u hu; simp at hu; subst hu; rfl
  case c3 => unfold maxLen; omega
  case c4 => omega
  case c5 => simp; omega
  intro v' w1 hown' hgrow _
  rcases hown'.2 with ⟨_, h0⟩ | ⟨g, cap, cur, rfl, hg, hh, hr⟩
  · omega
  have hne : v.ownBlock ≠ some c := by
    intro e
    have := (hown.lt c e).1
    omega
  have hv1 : w1.heap[c]? = some (.cells #[v] 28 (0, 0)) := (hgrow.block c (by simp; omega) (fun e => hne e.symm)).trans ((Below.heap_alloc _ _ _ hlt).trans hv)
  have cW1 := cell_of_one hv1
  have fW1 := free_of_one hv1
  have hgc : g ≠ c := by omega
  go_wp2
  go_end0
  refine ⟨rfl, ⟨_, one_setCell hv1, ?_⟩, ?_⟩
  · have := ownsRow_setCell_below hown' (a := ⟨c, 0, none⟩) (by show c < c + 1; omega) (.slice (some ⟨g, 0, none⟩) (xs.length + 1) cap)
    simpa [intsV] using this
  · have hgl : ∀ k, v.ownBlock = some k → c + 1 ≤ k := fun k e => (hown.lt k e).1
    refine ⟨hgrow.os, hgrow.tape, hgrow.output, ?_, ?_, ?_⟩
    · have := hgrow.size; simp at this; simp [World.setCell]; omega
    · intro k hk
      refine (Below.heap_setCell _ _ _ _ (by show k ≠ c; omega)).trans ((hgrow.block k (by simp; omega) (fun e => by have := hgl k e.symm; omega)).trans (Below.heap_alloc _ _ _ (by omega)))
    · intro k hk hkc hn
      refine (Below.heap_setCell _ _ _ _ hkc).trans ((hgrow.block k (by simp; omega) ?_).trans (Below.heap_alloc _ _ _ hk))
      intro e
      rcases hown.2 with ⟨rfl, _⟩ | ⟨g2, cap2, cur2, rfl, hg2, hh2, hr2⟩
      · simp [Value.ownBlock] at e
      · simp [Value.ownBlock] at e
        subst e
        exact hn _ _ hh2

/-- All that older stands on. -/
structure Pre (bx c n : Nat) (M : Nat → Nat → Int) (xs : List Nat) (w : World) : Prop where
  xr : ∃ top, XRow w bx n top
  tr : TRow w (bx + 1) n M
  out : OutIs w c xs
  lt : bx + 1 < c
theorem row_fr {c b t n : Nat} {f : Nat → Value} {w w' : World} (h : w.rowIs b t n f) (ht : t ≠ 3) (hb : b ≠ c) (hf : Fr c w w') : w'.rowIs b t n f := by
  refine h.of_block (hf.box b h.lt hb ?_)
  intro cs fr e
  obtain ⟨a, ha, _⟩ := h
  rw [ha] at e
  simp at e
  exact ht e.2.1
theorem Pre.fr {bx c n : Nat} {M : Nat → Nat → Int} {xs ys : List Nat} {w w' : World} (h : Pre bx c n M xs w) (hf : Fr c w w') (ho : OutIs w' c ys) : Pre bx c n M ys w' := by
  obtain ⟨top, hx⟩ := h.xr
  have := h.lt
  exact ⟨⟨top, row_fr hx (by decide) (by omega) hf⟩, row_fr h.tr (by decide) (by omega) hf, ho, h.lt⟩
theorem Pre.alloc {bx c n : Nat} {M : Nat → Nat → Int} {xs : List Nat} {w : World} (h : Pre bx c n M xs w) (o : Obj) : Pre bx c n M xs (w.alloc o) :=
  ⟨h.xr.elim fun t ht => ⟨t, World.rowIs.alloc ht o⟩, World.rowIs.alloc h.tr o, h.out.alloc o, h.lt⟩
theorem Pre.drewN {bx c n q : Nat} {M : Nat → Nat → Int} {xs : List Nat} {w : World} (h : Pre bx c n M xs w) : Pre bx c n M xs (w.drewN q) :=
  ⟨h.xr.elim fun t ht => ⟨t, row_drewN ht⟩, row_drewN h.tr, h.out.drewN, h.lt⟩
/-- The box of the span that is looked for. -/
def BoxIs (w : World) (b : Nat) (lo hi : Int) : Prop := w.rowIs b 55 2 (fun i => if i = 0 then .int .u64 lo else .int .u64 hi)
theorem box_made (w : World) (lo hi : Int) : BoxIs (w.alloc (.cells #[.int .u64 lo, .int .u64 hi] 55)) w.heap.size lo hi := by
  refine World.rowIs_alloc w #[.int .u64 lo, .int .u64 hi] 55 _ fun i hi => ?_
  simp at hi
  rcases (by omega : i = 0 ∨ i = 1) with rfl | rfl <;> simp
theorem older_facts {bx c n : Nat} {M : Nat → Nat → Int} {xs : List Nat} {w : World} {b k : Nat} {lo hi : Int} (h : Pre bx c n M xs w) (hb : BoxIs w b lo hi) (hk : k < n) :
    w.cell? ⟨bx, 0, none⟩ = some (.slice (some ⟨bx + 1, 0, none⟩) n n) ∧ w.cell? ⟨bx + 1, k * 8, none⟩ = some (.int .u64 (M k 0)) ∧ w.cell? ⟨bx + 1, k * 8 + 1, none⟩ = some (.int .u64 (M k 1)) ∧
    w.cell? ⟨bx + 1, k * 8 + 3, none⟩ = some (.int .u64 (M k 3)) ∧ w.cell? ⟨bx + 1, k * 8 + 4, none⟩ = some (.int .i32 (M k 4)) ∧ w.cell? ⟨bx + 1, k * 8 + 5, none⟩ = some (.int .i32 (M k 5)) ∧
    w.cell? ⟨b, 0, none⟩ = some (.int .u64 lo) ∧ w.cell? ⟨b, 1, none⟩ = some (.int .u64 hi) := by
  obtain ⟨top, hx⟩ := h.xr
  exact ⟨World.rowIs.cell hx (i := 0) (by omega), h.tr.cell hk 0 (by omega), h.tr.cell hk 1 (by omega), h.tr.cell hk 3 (by omega), h.tr.cell hk 4 (by omega), h.tr.cell hk 5 (by omega),
    World.rowIs.cell hb (i := 0) (by omega), World.rowIs.cell hb (i := 1) (by omega)⟩

theorem older_none (bx c : Nat) (lo hi : Int) (xs : List Nat) (w : World) (ho : OutIs w c xs) :
    Calls Try.prog 24 #[.pointer (some ⟨bx, 0, none⟩), .int .i32 (-1), .agg #[.int .u64 lo, .int .u64 hi], .func (.func 22) #[] #[.pointer (some ⟨c, 0, none⟩)]] w
      fun e w' => e = .returned (.tuple #[]) ∧ OutIs w' c xs ∧ Fr c w w' := by
  have g : ((-1 : Int) == -1) = true := rfl
  have O : Hid (OutIs (w.alloc (.cells #[.int .u64 lo, .int .u64 hi] 55)) c xs) := ho.alloc _
  have F : Hid (Fr c w (w.alloc (.cells #[.int .u64 lo, .int .u64 hi] 55))) := (Fr.refl c w).alloc (Nat.le_of_lt ho.lt) _
  clear ho
  go_enter Try.func24, Try.ntmps24
  go_wp2_with fail
  go_quiet (fail)
  go_wp2_with fail
  refine bodyPost_ret (results_none rfl _ _ _) rfl ⟨rfl, O.out.drewN, F.out.drewN⟩

theorem older_step {bx c n q : Nat} {M : Nat → Nat → Int} {xs ys : List Nat} {w w1 : World} {b : Nat} {lo hi : Int} (h : Pre bx c n M xs w) (hb : BoxIs w b lo hi) (ne : b ≠ c) (hf : Fr c (w.drewN q) w1) (ho : OutIs w1 c ys) :
    Pre bx c n M ys w1 ∧ BoxIs w1 b lo hi := ⟨(h.drewN (q := q)).fr hf ho, row_fr (row_drewN (q := q) hb) (by decide) ne hf⟩

set_option maxRecDepth 100000 in
set_option maxHeartbeats 2000000 in
theorem older_any (FL H : Nat → Int) (n bx c : Nat) (M : Nat → Nat → Int) (lo hi : Int) (hn : n ≤ 4096) (d : Nat) : ∀ (t : Int) (s xs : List Nat) (w : World), Pre bx c n M xs w → Tree FL H n M d t s → xs.length + s.length ≤ 4096 →
    Calls Try.prog 24 #[.pointer (some ⟨bx, 0, none⟩), .int .i32 t, .agg #[.int .u64 lo, .int .u64 hi], .func (.func 22) #[] #[.pointer (some ⟨c, 0, none⟩)]] w
      fun e w' => e = .returned (.tuple #[]) ∧ OutIs w' c (xs ++ fnd FL H lo hi s) ∧ Fr c w w' := by
  induction d with
  | zero =>
    intro t s xs w hP hT _
    unfold Tree at hT
    obtain ⟨rfl, rfl⟩ := hT
    simpa [fnd] using older_none bx c lo hi xs w hP.out
  | succ d ih =>
    intro t s xs w hP hT hlen
    unfold Tree at hT
    rcases hT with ⟨rfl, rfl⟩ | ⟨k, s1, s2, rfl, hk, hs, h0, h1, hl, hr, hf, hh⟩
    · simpa [fnd] using older_none bx c lo hi xs w hP.out
    · have IH : Hid (∀ (t : Int) (s xs : List Nat) (w : World), Pre bx c n M xs w → Tree FL H n M d t s → xs.length + s.length ≤ 4096 →
          Calls Try.prog 24 #[.pointer (some ⟨bx, 0, none⟩), .int .i32 t, .agg #[.int .u64 lo, .int .u64 hi], .func (.func 22) #[] #[.pointer (some ⟨c, 0, none⟩)]] w
            fun e w' => e = .returned (.tuple #[]) ∧ OutIs w' c (xs ++ fnd FL H lo hi s) ∧ Fr c w w') := ih
      clear ih
      have hcl := hP.out.lt
      have hcx := hP.lt
      have P0 : Hid (Pre bx c n M xs (w.alloc (.cells #[.int .u64 lo, .int .u64 hi] 55))) := hP.alloc _
      have B0 : Hid (BoxIs (w.alloc (.cells #[.int .u64 lo, .int .u64 hi] 55)) w.heap.size lo hi) := box_made w lo hi
      have F0 : Hid (Fr c w (w.alloc (.cells #[.int .u64 lo, .int .u64 hi] 55))) := (Fr.refl c w).alloc (Nat.le_of_lt hcl) _
      have g : ((k : Int) == -1) = false := by simp
      have kn : (k : Int) < (n : Int) := by omega
      have k0 : (0 : Int) ≤ (k : Int) := by omega
      have HL : Hid (Tree FL H n M d (M k 4) s1) := hl
      have HR : Hid (Tree FL H n M d (M k 5) s2) := hr
      have HF : Hid (∀ j ∈ s, FL j ≤ M k 3) := hf
      have HH : Hid (∀ j ∈ s2, H k ≤ H j) := hh
      have HS : Hid (s = s1 ++ k :: s2) := hs
      have E0 : Hid (M k 0 = FL k) := h0
      have E1 : Hid (M k 1 = H k) := h1
      have L1 : Hid (xs.length + (s1.length + (s2.length + 1)) ≤ 4096) := by show xs.length + (s1.length + (s2.length + 1)) ≤ 4096; rw [hs] at hlen; simpa using hlen
      clear hP hl hr hf hh hs h0 h1 hlen
      obtain ⟨x0, m0, m1, m3, m4, m5, b0, b1⟩ := older_facts P0.out B0.out hk
      by_cases hfl : M k 3 ≤ lo
      · have hd : decide (M k 3 ≤ lo) = true := by simpa using hfl
        have HN : Hid (fnd FL H lo hi s = []) := fnd_none (fun j hj => by have := HF.out j hj; omega)
        go_enter Try.func24, Try.ntmps24
        go_wp2_with fail
        go_quiet (fail)
        go_wp2_with fail
        refine bodyPost_ret (results_none rfl _ _ _) rfl ⟨rfl, ?_, F0.out.drewN⟩
        rw [HN.out, List.append_nil]
        exact P0.out.out.drewN
      · have hd : decide (M k 3 ≤ lo) = false := by simpa using hfl
        go_enter Try.func24, Try.ntmps24
        go_wp2_with fail
        go_quiet (fail)
        go_wp2_with fail
        go_region_held3 (fun w' => w'.cell? ⟨bx, 0, none⟩ = some (.slice (some ⟨bx + 1, 0, none⟩) n n) ∧ w'.cell? ⟨bx + 1, k * 8 + 4, none⟩ = some (.int .i32 (M k 4)) ∧ w'.cell? ⟨w.heap.size, 0, none⟩ = some (.int .u64 lo) ∧ w'.cell? ⟨w.heap.size, 1, none⟩ = some (.int .u64 hi))
          (go_keep)
          ((go_at_call 24; refine (IH.out (M k 4) s1 xs _ (by exact P0.out.drewN) HL.out (by have := L1.out; omega)).mono ?_; rintro e w1 ⟨rfl, o1, f1⟩; obtain ⟨P1, B1⟩ := older_step P0.out B0.out (by omega) f1 o1; obtain ⟨y0, y1, y2, y3, y4, y5, y6, y7⟩ := older_facts P1 B1 hk))
        have F1 : Hid (Fr c w w1) := (F0.out.drewN (q := nq + 1)).trans f1
        have PP : Hid (Pre bx c n M (xs ++ fnd FL H lo hi s1) w1) := P1
        have BB : Hid (BoxIs w1 w.heap.size lo hi) := B1
        have LF : Hid ((fnd FL H lo hi s1).length ≤ s1.length) := List.length_filter_le _ _
        clear o1 f1 P1 B1 x0 m0 m1 m3 m4 m5 b0 b1 F0 P0 B0
        by_cases hh1 : M k 1 < hi
        · have hd1 : decide (M k 1 < hi) = true := by simpa using hh1
          by_cases hf1 : lo < M k 0
          · have hd2 : decide (lo < M k 0) = true := by simpa using hf1
            have HE : Hid (fnd FL H lo hi s = fnd FL H lo hi s1 ++ ([k] ++ fnd FL H lo hi s2)) := by
              show fnd FL H lo hi s = _
              rw [HS.out, fnd_node, if_pos ⟨by rw [← E1.out]; exact hh1, by rw [← E0.out]; exact hf1⟩]
            go_wp2_with fail
            go_quiet (fail)
            go_wp2_with (go_at_call 22; refine (clos_any c k (xs ++ fnd FL H lo hi s1) _ (by exact PP.out.out.drewN) (by have := L1.out; have := LF.out; simp; omega)).mono ?_; rintro e w2 ⟨rfl, o2, f2⟩; obtain ⟨P2, B2⟩ := older_step PP.out BB.out (by omega) f2 o2; obtain ⟨v0, v1, v2, v3, v4, v5, v6, v7⟩ := older_facts P2 B2 hk)
            have F2 : Hid (Fr c w w2) := F1.out.trans (Fr.trans ((Fr.refl _ _).drewN) f2)
            have PP2 : Hid (Pre bx c n M (xs ++ fnd FL H lo hi s1 ++ [k]) w2) := P2
            have BB2 : Hid (BoxIs w2 w.heap.size lo hi) := B2
            clear o2 f2 P2 B2 y0 y1 y2 y3 y4 y5 y6 y7 PP BB F1
            go_quiet (fail)
            go_wp2_with fail
            go_region_held3 (fun w' => w'.cell? ⟨bx, 0, none⟩ = some (.slice (some ⟨bx + 1, 0, none⟩) n n) ∧ w'.cell? ⟨bx + 1, k * 8 + 5, none⟩ = some (.int .i32 (M k 5)) ∧ w'.cell? ⟨w.heap.size, 0, none⟩ = some (.int .u64 lo) ∧ w'.cell? ⟨w.heap.size, 1, none⟩ = some (.int .u64 hi))
              (go_keep)
              ((go_at_call 24; refine (IH.out (M k 5) s2 (xs ++ fnd FL H lo hi s1 ++ [k]) _ (by exact PP2.out.drewN) HR.out (by have := L1.out; have := LF.out; simp; omega)).mono ?_; rintro e w3 ⟨rfl, o3, f3⟩; obtain ⟨P3, B3⟩ := older_step PP2.out BB2.out (by omega) f3 o3; obtain ⟨z0, z1, z2, z3, z4, z5, z6, z7⟩ := older_facts P3 B3 hk))
            go_wp2_with fail
            go_end0
            refine ⟨rfl, ?_, F2.out.trans (Fr.trans ((Fr.refl _ _).drewN) f3)⟩
            rw [HE.out]
            simpa using o3
          · have hd2 : decide (lo < M k 0) = false := by simpa using hf1
            have HE : Hid (fnd FL H lo hi s = fnd FL H lo hi s1 ++ fnd FL H lo hi s2) := by
              show fnd FL H lo hi s = _
              rw [HS.out, fnd_node, if_neg (fun e => hf1 (by rw [E0.out]; exact e.2))]; rfl
            go_wp2_with fail
            go_quiet (fail)
            go_wp2_with fail
            go_quiet (fail)
            go_wp2_with fail
            go_region_held3 (fun w' => w'.cell? ⟨bx, 0, none⟩ = some (.slice (some ⟨bx + 1, 0, none⟩) n n) ∧ w'.cell? ⟨bx + 1, k * 8 + 5, none⟩ = some (.int .i32 (M k 5)) ∧ w'.cell? ⟨w.heap.size, 0, none⟩ = some (.int .u64 lo) ∧ w'.cell? ⟨w.heap.size, 1, none⟩ = some (.int .u64 hi))
              (go_keep)
              ((go_at_call 24; refine (IH.out (M k 5) s2 (xs ++ fnd FL H lo hi s1) _ (by exact PP.out.drewN) HR.out (by have := L1.out; have := LF.out; simp; omega)).mono ?_; rintro e w3 ⟨rfl, o3, f3⟩; obtain ⟨P3, B3⟩ := older_step PP.out BB.out (by omega) f3 o3; obtain ⟨z0, z1, z2, z3, z4, z5, z6, z7⟩ := older_facts P3 B3 hk))
            go_wp2_with fail
            go_end0
            refine ⟨rfl, ?_, F1.out.trans (Fr.trans ((Fr.refl _ _).drewN) f3)⟩
            rw [HE.out]
            simpa using o3
        · have hd1 : decide (M k 1 < hi) = false := by simpa using hh1
          have HE : Hid (fnd FL H lo hi s = fnd FL H lo hi s1) := by
            show fnd FL H lo hi s = _
            rw [HS.out, fnd_node, if_neg (fun e => hh1 (by rw [E1.out]; exact e.1)), fnd_high (s := s2) (fun j hj => by have h1 := HH.out j hj; have h2 := E1.out; omega)]
            simp
          go_wp2_with fail
          go_quiet (fail)
          go_wp2_with fail
          go_quiet (fail)
          go_wp2_with fail
          go_end0
          refine ⟨rfl, ?_, F1.out.drewN.drewN⟩
          rw [HE.out]
          exact PP.out.out.drewN.drewN
end Go.Proofs.Qxb6609258a
