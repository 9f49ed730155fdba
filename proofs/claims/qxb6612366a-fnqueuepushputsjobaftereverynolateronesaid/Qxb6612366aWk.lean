/-
  WALKS (k): the queue's small functions; the closure in byAge.
-/
import Derived.Test.Qxb6612366aWj
import Derived.Deep.RegionHeld3
namespace Go.Proofs.Qxb6612366a
open Go.RowKit

/-- Block bq is a queue. -/
def QAt (w : World) (bq : Nat) (st : ByteArray) (v : Value) (h : Int) : Prop := w.heap[bq]? = some (.cells #[.string st, v, .int .i64 h] 59 (0, 0))
theorem QAt.lt {w : World} {bq : Nat} {st : ByteArray} {v : Value} {h : Int} (q : QAt w bq st v h) : bq < w.heap.size := (Array.getElem?_eq_some_iff.1 q).1
theorem QAt.cells {w : World} {bq : Nat} {st : ByteArray} {v : Value} {h : Int} (q : QAt w bq st v h) :
    w.cell? ⟨bq, 0, none⟩ = some (.string st) ∧ w.cell? ⟨bq, 1, none⟩ = some v ∧ w.cell? ⟨bq, 2, none⟩ = some (.int .i64 h) ∧ w.frozen? ⟨bq, 1, none⟩ = false := by
  unfold QAt at q
  simp [World.cell?, World.frozen?, q]
theorem QAt.set {w : World} {bq : Nat} {st : ByteArray} {v : Value} {h : Int} (q : QAt w bq st v h) (u : Value) : QAt (w.setCell ⟨bq, 1, none⟩ u) bq st u h := by
  unfold QAt at q ⊢
  rw [setCell_eq_setRow w bq 1 _ _ _ u q, setRow_heap w bq _ _ _ _ q]
  rfl

theorem newq_any (st : ByteArray) (a : Option Addr) (n c : Nat) (h : Int) (w : World) :
    Calls Try.prog 7 #[.string st, .slice a n c, .int .i64 h] w fun e w' => e = .returned (.pointer (some ⟨w.heap.size, 0, none⟩)) ∧ w' = w.alloc (.cells #[.string st, .slice a n c, .int .i64 h] 59) := by
  go_enter Try.func7, Try.ntmps7
  go_wp2
  go_ret
  exact ⟨rfl, rfl⟩
theorem qhead_any (bq : Nat) (h : Int) (w : World) (hc : w.cell? ⟨bq, 2, none⟩ = some (.int .i64 h)) :
    Calls Try.prog 10 #[.pointer (some ⟨bq, 0, none⟩)] w fun e w' => e = .returned (.int .i64 h) ∧ w' = w := by
  go_enter Try.func10, Try.ntmps10
  go_wp2
  go_ret
  exact ⟨rfl, rfl⟩
theorem qstage_any (bq : Nat) (st : ByteArray) (w : World) (hc : w.cell? ⟨bq, 0, none⟩ = some (.string st)) :
    Calls Try.prog 11 #[.pointer (some ⟨bq, 0, none⟩)] w fun e w' => e = .returned (.string st) ∧ w' = w := by
  go_enter Try.func11, Try.ntmps11
  go_wp2
  go_ret
  exact ⟨rfl, rfl⟩
theorem qjobs_any (bq : Nat) (a : Option Addr) (n c : Nat) (w : World) (hc : w.cell? ⟨bq, 1, none⟩ = some (.slice a n c)) :
    Calls Try.prog 13 #[.pointer (some ⟨bq, 0, none⟩)] w fun e w' => e = .returned (.slice a n c) ∧ w' = w := by
  go_enter Try.func13, Try.ntmps13
  go_wp2
  go_ret
  exact ⟨rfl, rfl⟩

set_option maxHeartbeats 1000000 in
/-- The closure: is the k-th job younger than j? -/
theorem clos_any (bx bj g o m cp k B J : Nat) (x t : Int) (w : World) (hk : k < m)
    (cx : w.cell? ⟨bx, 0, none⟩ = some (.slice (some ⟨g, o, none⟩) m cp)) (cj : w.cell? ⟨bj, 0, none⟩ = some (.pointer (some ⟨J, 0, none⟩)))
    (ck : w.cell? ⟨g, o + k, none⟩ = some (.pointer (some ⟨B, 0, none⟩))) (hB : JobAt w B x) (hJ : JobAt w J t) :
    Calls Try.prog 27 #[.int .i64 (k : Int), .pointer (some ⟨bx, 0, none⟩), .pointer (some ⟨bj, 0, none⟩)] w fun e w' => e = .returned (.bool (decide (t < x))) ∧ Below w.heap.size w w' := by
  obtain ⟨b8, b9, b10⟩ := hB.cells
  obtain ⟨j8, j9, j10⟩ := hJ.cells
  have C : Hid (∀ w, Calls Try.prog 28 _ w _) := fun w => after_any x t w
  clear hB hJ
  obtain ⟨R, hR⟩ : ∃ r, x % 1000000000 = r := ⟨_, rfl⟩
  obtain ⟨Q, hQ⟩ : ∃ r, x / 1000000000 = r := ⟨_, rfl⟩
  obtain ⟨S, hS⟩ : ∃ r, t % 1000000000 = r := ⟨_, rfl⟩
  obtain ⟨T, hT⟩ : ∃ r, t / 1000000000 = r := ⟨_, rfl⟩
  obtain ⟨D, hD⟩ : ∃ d, decide (t < x) = d := ⟨_, rfl⟩
  rw [hR, hQ, hS, hT, hD] at C
  rw [hR] at b8; rw [hQ] at b9; rw [hS] at j8; rw [hT] at j9
  rw [hD]
  clear hR hQ hS hT hD
  have kn : (k : Int) < (m : Int) := by omega
  go_enter Try.func27, Try.ntmps27
  go_wp2_with fail
  go_region_held3 (fun w' => w'.cell? ⟨bx, 0, none⟩ = some (.slice (some ⟨g, o, none⟩) m cp) ∧ w'.cell? ⟨bj, 0, none⟩ = some (.pointer (some ⟨J, 0, none⟩)) ∧ w'.cell? ⟨g, o + k, none⟩ = some (.pointer (some ⟨B, 0, none⟩)) ∧ w'.cell? ⟨B, 8, none⟩ = some (.int .u64 R) ∧ w'.cell? ⟨B, 9, none⟩ = some (.int .i64 Q) ∧ w'.cell? ⟨B, 10, none⟩ = some (.pointer none) ∧ w'.cell? ⟨J, 8, none⟩ = some (.int .u64 S) ∧ w'.cell? ⟨J, 9, none⟩ = some (.int .i64 T) ∧ w'.cell? ⟨J, 10, none⟩ = some (.pointer none))
    (go_keep)
    ((go_at_call 28; refine (C.out _).mono ?_; rintro e w1 ⟨rfl, o1, o2, hw1⟩))
  go_wp2_with fail
  go_ret
  exact ⟨rfl, (((Below.refl _ _).alloc (Nat.le_refl _) _).alloc (by simp) _).drew⟩

/-- What the search reads: the boxes of jobs and of j, the jobs' places. -/
structure AgeAt (w : World) (bx bj g o m cp J : Nat) (B : Nat → Nat) (c : Nat → Int) (t : Int) : Prop where
  box : w.cell? ⟨bx, 0, none⟩ = some (.slice (some ⟨g, o, none⟩) m cp)
  boj : w.cell? ⟨bj, 0, none⟩ = some (.pointer (some ⟨J, 0, none⟩))
  job : JobAt w J t
  at_ : ∀ k, k < m → w.cell? ⟨g, o + k, none⟩ = some (.pointer (some ⟨B k, 0, none⟩)) ∧ JobAt w (B k) (c k)
theorem cell_below {w w' : World} {a : Addr} {v : Value} (h : w.cell? a = some v) (hb : Below w.heap.size w w') : w'.cell? a = some v := (hb.cell (World.block_lt_of_cell? w a h)).trans h
theorem JobAt.below {w w' : World} {b : Nat} {x : Int} (h : JobAt w b x) (hb : Below w.heap.size w w') : JobAt w' b x := h.of_block (hb.block _ h.lt)
theorem AgeAt.below {w w' : World} {bx bj g o m cp J : Nat} {B : Nat → Nat} {c : Nat → Int} {t : Int} (h : AgeAt w bx bj g o m cp J B c t) (hb : Below w.heap.size w w') : AgeAt w' bx bj g o m cp J B c t :=
  ⟨cell_below h.box hb, cell_below h.boj hb, h.job.below hb, fun k hk => ⟨cell_below (h.at_ k hk).1 hb, (h.at_ k hk).2.below hb⟩⟩

set_option maxHeartbeats 1000000 in
theorem search_any (bx bj g o m cp J : Nat) (B : Nat → Nat) (c : Nat → Int) (t : Int) (w : World) (hm : m ≤ 1000000) (hA : Hid (AgeAt w bx bj g o m cp J B c t)) (hmono : Hid (∀ i k, i ≤ k → k < m → c i ≤ c k)) :
    Calls Try.prog 26 #[.int .i64 (m : Int), .func (.func 27) #[] #[.pointer (some ⟨bx, 0, none⟩), .pointer (some ⟨bj, 0, none⟩)]] w fun e w' =>
      ∃ r : Nat, e = .returned (.int .i64 (r : Int)) ∧ r ≤ m ∧ (∀ k, k < r → c k ≤ t) ∧ (∀ k, r ≤ k → k < m → t < c k) ∧ Below w.heap.size w w' := by
  go_enter Try.func26, Try.ntmps26
  go_wp2
  go_loopw [5, 6, 7] (fun i j _ wr => ∃ a b : Nat, i = .int .i64 (a : Int) ∧ j = .int .i64 (b : Int) ∧ a ≤ b ∧ b ≤ m ∧ Hid (∀ k, k < a → c k ≤ t) ∧ Hid (∀ k, b ≤ k → k < m → t < c k) ∧ Below w.heap.size w wr)
    (fun i j _ _ => (intOf j).toNat - (intOf i).toNat)
  case atStart => exact ⟨0, m, rfl, rfl, Nat.zero_le _, Nat.le_refl _, fun k h => absurd h (by omega), fun k h1 h2 => absurd h1 (by omega), Below.refl _ _⟩
  case round =>
    obtain ⟨a, b, rfl, rfl, hab, hbm, hlo, hhi, hbel⟩ := hrel
    by_cases hlt : a < b
    · obtain ⟨mid, hmid⟩ : ∃ mid, mid = (a + b) / 2 := ⟨_, rfl⟩
      have hq : ((a : Int) + (b : Int)) / 2 = (mid : Int) := by omega
      have h1 : a ≤ mid := by omega
      have h2 : mid < b := by omega
      have A1 : Hid (AgeAt wr bx bj g o m cp J B c t) := hA.out.below hbel
      clear hmid
      by_cases hc : t < c mid
      · have hd : decide (t < c mid) = true := by simpa using hc
        have HH : Hid (∀ k, mid ≤ k → k < m → t < c k) := fun k h3 h4 => by have := hmono.out mid k h3 h4; omega
        go_wp2_with fail
        refine (clos_any bx bj g o m cp mid (B mid) J (c mid) t wr (by omega) A1.out.box A1.out.boj (A1.out.at_ mid (by omega)).1 (A1.out.at_ mid (by omega)).2 A1.out.job).mono ?_
        rintro e w1 ⟨rfl, hb1⟩
        rw [hd]
        have HB : Hid (Below w.heap.size w w1) := hbel.trans (hb1.mono hbel.size)
        clear hbel hb1 hd hc
        go_wp2_with fail
        go_roundw
        case rel => exact ⟨a, mid, rfl, rfl, h1, by omega, hlo, HH, HB.out⟩
        case measure => simp [intOf]; omega
      · have hd : decide (t < c mid) = false := by simpa using hc
        have HH : Hid (∀ k, k < mid + 1 → c k ≤ t) := fun k h3 => by have := hmono.out k mid (by omega) (by omega); omega
        go_wp2_with fail
        refine (clos_any bx bj g o m cp mid (B mid) J (c mid) t wr (by omega) A1.out.box A1.out.boj (A1.out.at_ mid (by omega)).1 (A1.out.at_ mid (by omega)).2 A1.out.job).mono ?_
        rintro e w1 ⟨rfl, hb1⟩
        rw [hd]
        have HB : Hid (Below w.heap.size w w1) := hbel.trans (hb1.mono hbel.size)
        clear hbel hb1 hd hc
        go_wp2_with fail
        go_roundw
        case rel => exact ⟨mid + 1, b, by go_num, rfl, by omega, hbm, HH, hhi, HB.out⟩
        case measure => simp [intOf]; omega
    · have hnl : ¬ ((a : Int) < (b : Int)) := by omega
      go_wp2
      go_ret
      exact ⟨a, rfl, by omega, hlo.out, fun k h1 h2 => hhi.out k (by omega) h2, hbel⟩

set_option maxHeartbeats 1000000 in
theorem age_any (g o m cp J : Nat) (B : Nat → Nat) (c : Nat → Int) (t : Int) (w : World) (hm : m ≤ 1000000) (hJ : JobAt w J t)
    (hat : Hid (∀ k, k < m → w.cell? ⟨g, o + k, none⟩ = some (.pointer (some ⟨B k, 0, none⟩)) ∧ JobAt w (B k) (c k))) (hmono : Hid (∀ i k, i ≤ k → k < m → c i ≤ c k)) :
    Calls Try.prog 22 #[.slice (some ⟨g, o, none⟩) m cp, .pointer (some ⟨J, 0, none⟩)] w fun e w' =>
      ∃ r : Nat, e = .returned (.int .i64 (r : Int)) ∧ r ≤ m ∧ (∀ k, k < r → c k ≤ t) ∧ (∀ k, r ≤ k → k < m → t < c k) ∧ Below w.heap.size w w' := by
  have hB : Below w.heap.size w ((w.alloc (.cells #[.slice (some ⟨g, o, none⟩) m cp] 24)).alloc (.cells #[.pointer (some ⟨J, 0, none⟩)] 29)) := ((Below.refl _ _).alloc (Nat.le_refl _) _).alloc (by simp) _
  have A : Hid (AgeAt ((w.alloc (.cells #[.slice (some ⟨g, o, none⟩) m cp] 24)).alloc (.cells #[.pointer (some ⟨J, 0, none⟩)] 29)) w.heap.size (w.heap.size + 1) g o m cp J B c t) :=
    ⟨by simp [World.cell?_alloc_past], by simp, hJ.below hB, fun k hk => ⟨cell_below (hat.out k hk).1 hB, (hat.out k hk).2.below hB⟩⟩
  have HB : Hid (Below w.heap.size w _) := hB
  clear hB hJ
  go_enter Try.func22, Try.ntmps22
  go_wp2_with fail
  refine (search_any _ _ g o m cp J B c t _ hm A hmono).mono ?_
  rintro e w1 ⟨r, rfl, h1, h2, h3, h4⟩
  have H2 : Hid (∀ k, k < r → c k ≤ t) := h2
  have H3 : Hid (∀ k, r ≤ k → k < m → t < c k) := h3
  have H4 : Hid (Below w.heap.size w w1) := HB.out.trans (h4.mono (by simp; omega))
  clear h2 h3 h4
  go_wp2_with fail
  go_ret
  exact ⟨r, rfl, h1, H2.out, H3.out, H4.out⟩

/-- An empty list, nil or not. -/
theorem search_none (f : Value) (w : World) : Calls Try.prog 26 #[.int .i64 0, f] w fun e w' => e = .returned (.int .i64 0) ∧ w' = w := by
  go_enter Try.func26, Try.ntmps26
  go_wp2
  go_loopw [5, 6, 7] (fun i j _ wr => i = .int .i64 0 ∧ j = .int .i64 0 ∧ wr = w) (fun _ _ _ _ => 0)
  case atStart => exact ⟨rfl, rfl, rfl⟩
  case round =>
    obtain ⟨rfl, rfl, rfl⟩ := hrel
    go_wp2
    go_ret
    exact ⟨rfl, rfl⟩
theorem age_none (a : Option Addr) (cp J : Nat) (w : World) :
    Calls Try.prog 22 #[.slice a 0 cp, .pointer (some ⟨J, 0, none⟩)] w fun e w' => e = .returned (.int .i64 0) ∧ Below w.heap.size w w' := by
  go_enter Try.func22, Try.ntmps22
  go_wp2_with fail
  refine (search_none _ _).mono ?_
  rintro e w1 ⟨rfl, hw1⟩
  rw [hw1]
  clear hw1
  go_wp2_with fail
  go_ret
  exact ⟨rfl, ((Below.refl _ _).alloc (Nat.le_refl _) _).alloc (by simp) _⟩
end Go.Proofs.Qxb6612366a
