/-
  WALKS (z): FnQueuePushPutsJobAfterEveryNoLaterOne, walked.
-/
import Derived.Test.Qxb6612366aWy
namespace Go.Proofs.Qxb6612366a
open Go.RowKit

set_option maxRecDepth 100000 in
set_option maxHeartbeats 2000000 in
theorem puts_any (at0 : Option Addr) (n c h : Nat) (z : Nat → Int) (st : ByteArray) (x : Int) (w : World) (hn : n ≤ 65536) (hst : st.size ≤ 524288) (hh : h ≤ n) (hat : Hid (InAt w at0 n z)) (hz : Hid (Fits n z))
    (hx0 : -9223372036854775808 ≤ x) (hx1 : x ≤ 9223372036854775807) :
    Calls Try.prog 3 #[.slice at0 n c, .int .i64 (h : Int), .string st, .int .i64 x] w fun e w' => e = .returned (.bool true) ∧ Below w.heap.size w w' := by
  have d1 : decide ((65536 : Int) < (n : Int)) = false := decide_eq_false (by omega)
  have d1' : ¬ (65536 : Int) < (n : Int) := by omega
  have d2 : ¬ (524288 : Int) < (st.size : Int) := by omega
  have d3 : decide ((h : Int) < 0) = false := decide_eq_false (by omega)
  have d4 : ¬ (n : Int) < (h : Int) := by omega
  have d2b : decide ((524288 : Int) < (st.size : Int)) = false := decide_eq_false d2
  have d4b : decide ((n : Int) < (h : Int)) = false := decide_eq_false d4
  have d4c : decide (n < h) = false := decide_eq_false (by omega)
  have HB : Hid (Calls Try.prog 5 _ w _) := bytes3_yes at0 n c (h : Int) x st w (by omega) (by omega) (by omega)
  go_enter Try.func3, Try.ntmps3
  go_wp2_with fail
  refine HB.out.mono ?_
  rintro e w0 ⟨rfl, hw0⟩
  rw [hw0]
  clear hw0 w0 HB
  go_wp2_with fail
  go_loopw [10] (fun i wr => ∃ k : Nat, h + 1 ≤ k ∧ i = .int .i64 (k : Int) ∧ Hid (k ≤ n ∨ k = h + 1) ∧ Hid (SrtFrom h k z) ∧ Hid (Below w.heap.size w wr)) (fun i _ => n - (intOf i).toNat)
  case atStart => exact ⟨h + 1, Nat.le_refl _, by go_num, .inr rfl, fun i h1 h2 => absurd h2 (by omega), Below.refl _ _⟩
  case round =>
    obtain ⟨k, hk, rfl, hkn, hs, hbel⟩ := hrel
    by_cases hlt : k < n
    · obtain ⟨m, rfl⟩ : ∃ m, k = m + 1 := ⟨k - 1, by omega⟩
      obtain ⟨b, off, rfl, hb0, hcells⟩ := hat.out (by omega)
      have c0 := (hbel.out.cell (p := ⟨b, off + m, none⟩) hb0).trans (hcells m (by omega))
      have c1 := (hbel.out.cell (p := ⟨b, off + (m + 1), none⟩) hb0).trans (hcells (m + 1) hlt)
      have m0 : (m : Int) < (n : Int) := by omega
      have m1 : (m : Int) + 1 < (n : Int) := by omega
      obtain ⟨z0, hz0⟩ : ∃ y, z m = y := ⟨_, rfl⟩
      obtain ⟨z1, hz1⟩ : ∃ y, z (m + 1) = y := ⟨_, rfl⟩
      rw [hz0] at c0
      rw [hz1] at c1
      clear hcells
      by_cases hc : z1 < z0
      · clear hz0 hz1
        go_wp2_with fail
        go_quiet (fail)
        go_wp2
        go_ret
        exact ⟨rfl, below_drewN hbel.out⟩
      · have HS : Hid (SrtFrom h (m + 1 + 1) z) := fun i h1 h2 => by
          by_cases e : i = m + 1
          · subst e
            rw [show m + 1 - 1 = m from rfl]
            omega
          · exact hs.out i h1 (by omega)
        clear hz0 hz1
        go_wp2_with fail
        go_quiet (fail)
        go_wp2
        go_roundw
        case rel => exact ⟨m + 1 + 1, by omega, by go_num, .inl (by omega), HS, below_drewN hbel.out⟩
        case measure => simp [intOf]; omega
    · have hnl : ¬ (k : Int) < (n : Int) := by omega
      have HS : Hid (SrtFrom h n z) := fun i h1 h2 => hs.out i h1 (by omega)
      clear hs hkn
      obtain ⟨W, hW⟩ : ∃ W, W = wr := ⟨_, rfl⟩
      subst hW
      go_wp2_with fail
      refine (jobs_any at0 n c z W hn (hat.out.below hbel.out) hz).mono ?_
      rintro e w1 ⟨rfl, hrow, hjobs, hb1, hsz⟩
      have hmk := run_make_row' (P := Try.prog) 24 29 (.pointer none) 8 Try.underlying24 Try.info29 rfl .i64 .i64 n (by omega) (by omega)
      have HSZ : Hid (w1.heap.size = W.heap.size + 4 * n + 1) := hsz
      clear hsz
      have hcp : ∀ ty, (Builtin.copy_ #[24, 24] ty #[.slice (some ⟨w1.heap.size, 0, none⟩) n n, .slice (some ⟨W.heap.size, 0, none⟩) n n]).run Try.prog (w1.alloc (.cells (madeCells #[.pointer none] n) 29)) = .ok (goInt n) ((w1.alloc (.cells (madeCells #[.pointer none] n) 29)).setRow w1.heap.size ((JL W.heap.size n).map jp).toArray) := fun ty => by
        have hl : ((JL W.heap.size n).map jp).length = n := by simp [JL_length]
        have hmc : (madeCells #[Value.pointer none] n).size = n := by simp [madeCells]
        have := run_copy_row Try.prog (w1.alloc (.cells (madeCells #[.pointer none] n) 29)) 24 24 ty 29 w1.heap.size 0 n n ⟨W.heap.size, 0, none⟩ n n (madeCells #[.pointer none] n) 29 ((JL W.heap.size n).map jp) Try.underlying24 Try.size29 (heap_alloc_new w1 _) (by rw [hl]; simp)
          (fun j v hj => by
            rw [Addr.add_lit, Nat.zero_add]
            have hjn : j < n := by have := (List.getElem?_eq_some_iff.1 hj).1; omega
            rw [List.getElem?_map, JL_get hjn] at hj
            simp at hj
            subst hj
            exact (hrow.alloc _).cell hjn) (by rw [hl, hmc]; omega) (fun v hv => by obtain ⟨b, _, rfl⟩ := List.mem_map.1 hv; rfl)
        rw [hl] at this
        rw [this, List.take_zero, List.nil_append, List.drop_eq_nil_of_le (by simp [hmc]), List.append_nil]
      go_wp2_with fail
      refine (newq_any _ _ _ _ _ _).mono ?_
      rintro e w3 ⟨rfl, hw3⟩
      have S3 : Hid (Set3 w3 W.heap.size n h w1.heap.size (w1.heap.size + 1) z st) := by
        rw [hw3]
        refine ⟨World.rowIs.alloc ?_ _, fun i hi => ?_, ?_, ?_, HSZ.out, by rw [HSZ.out]⟩
        · exact (hrow.alloc _).of_block (setRow_other _ _ _ _ (by rw [HSZ.out]; omega))
        · have hj := hjobs i hi
          have hlt := hj.lt
          exact hj.of_block ((Below.heap_alloc _ _ _ (by simp; omega)).trans ((setRow_other _ _ _ _ (by omega)).trans (Below.heap_alloc _ _ _ hlt)))
        · exact (Below.heap_alloc _ _ _ (by simp)).trans (setRow_heap _ _ _ _ _ _ (heap_alloc_new w1 _))
        · have := heap_alloc_new ((w1.alloc (.cells (madeCells #[.pointer none] n) 29)).setRow w1.heap.size ((JL W.heap.size n).map jp).toArray) (.cells #[.string st, .slice (some ⟨w1.heap.size, 0, none⟩) n n, .int .i64 (h : Int)] 59)
          simpa [QAt] using this
      have B3 : Hid (Below W.heap.size W w3) := by
        rw [hw3]
        have hs := HSZ.out
        have hx : Below W.heap.size W ((w1.alloc (.cells (madeCells #[.pointer none] n) 29)).setRow w1.heap.size ((JL W.heap.size n).map jp).toArray) :=
          (hb1.alloc (by omega) _).trans ⟨rfl, rfl, rfl, by simp, fun k hk => setRow_other _ _ _ _ (by omega)⟩
        exact hx.alloc (by simp; omega) _
      have Z3 : Hid (w3.heap.size = w1.heap.size + 2) := by show _ = _; rw [hw3]; simp
      clear hw3 hrow hjobs hb1 hcp hmk
      have C : Hid (∀ w, Calls Try.prog 8 _ w _) := fun w => timeAt_any x w hx0 hx1
      obtain ⟨R, hR⟩ : ∃ r, x % 1000000000 = r := ⟨_, rfl⟩
      obtain ⟨Q, hQ⟩ : ∃ r, x / 1000000000 = r := ⟨_, rfl⟩
      have HR : Hid (x % 1000000000 = R) := hR
      have HQ : Hid (x / 1000000000 = Q) := hQ
      rw [hR, hQ] at C
      clear hR hQ
      go_wp2_with fail
      refine (C.out w3).mono ?_
      rintro e w4 ⟨rfl, o1, o2, o3, hw4⟩
      have hb4 : Below w3.heap.size w3 w4 := by rw [hw4]; exact (((Below.refl _ _).alloc (Nat.le_refl _) _).alloc (by simp) _).alloc (by simp; omega) _
      have S4 : Hid (Set3 w4 W.heap.size n h w1.heap.size (w1.heap.size + 1) z st) := S3.out.below hb4
      have B4 : Hid (Below W.heap.size W w4) := B3.out.trans (hb4.mono B3.out.size)
      have Z4 : Hid (w1.heap.size + 2 ≤ w4.heap.size) := by have h1 := hb4.size; have h2 := Z3.out; show _ ≤ _; omega
      clear hw4 hb4 S3 B3 Z3
      go_wp2_with fail
      refine (qpush_any (w1.heap.size + 1) w1.heap.size h n w4.heap.size (.slice (some ⟨w1.heap.size, 0, none⟩) n n) st (JL W.heap.size n) (TJ W.heap.size z w4.heap.size x) _ ?pp ?aa (by omega) hh).mono ?_
      case pp =>
        refine set3_push (S4.out.below ((Below.refl _ _).alloc (Nat.le_refl _) _)) ⟨_, heap_alloc_new w4 _, ?_, ?_, ?_⟩ (by have := Z4.out; omega) hn
        · rw [HR.out]; rfl
        · rw [HQ.out]; rfl
        · rfl
      case aa => exact set3_aged HS.out (by have := Z4.out; have := HSZ.out; omega)
      rintro e w6 ⟨rfl, v', r, hw, hp⟩
      have hJ : W.heap.size + 4 * n + 1 < w4.heap.size := by have := Z4.out; have := HSZ.out; omega
      obtain ⟨hpn, hlo, hhi⟩ := set3_where hJ hh hw
      obtain ⟨row6, b6, g, cap, _, q6, G6⟩ := set3_done (S4.out.below ((Below.refl _ _).alloc (Nat.le_refl _) _)) hpn hp
      have B6 : Hid (Below w.heap.size w w6) := hbel.out.trans (((B4.out.alloc (by have := HSZ.out; have := Z4.out; omega) _).trans b6).mono hbel.out.size)
      obtain ⟨p, hpp⟩ : ∃ p, h + r = p := ⟨_, rfl⟩
      have hhp : h ≤ p := by omega
      rw [hpp] at hpn hlo hhi G6
      have LO : Hid (∀ k, h ≤ k → k < p → z k ≤ x) := hlo
      have HI : Hid (∀ k, p ≤ k → k < n → x < z k) := hhi
      have R6 : Hid (w6.rowIs W.heap.size 29 n (fun i => jp (jb W.heap.size i))) := row6
      have GG : Hid (∀ i, i ≤ n → w6.cell? ⟨g, i, none⟩ = some (if i < p then jp (jb W.heap.size i) else if i = p then jp w4.heap.size else jp (jb W.heap.size (i - 1)))) := G6
      obtain ⟨q0, q1, q2, _⟩ := q6.cells
      clear hw hp hpp hlo hhi row6 G6 q6 b6 B4 S4 C HR HQ
      go_wp2_with fail
      obtain ⟨bq, hbq⟩ : ∃ bq, w1.heap.size + 1 = bq := ⟨_, rfl⟩
      rw [hbq] at q0 q1 q2 ⊢
      obtain ⟨J, hJJ⟩ : ∃ J, w4.heap.size = J := ⟨_, rfl⟩
      rw [hJJ] at GG ⊢
      clear hbq hJJ hJ
      go_loopw [15, 16] (fun a b wr => ∃ j M : Nat, h ≤ j ∧ j ≤ n ∧ b = .int .i64 (j : Int) ∧ a = .int .i64 (M : Int) ∧ Hid (M = min j p) ∧ wr = w6) (fun _ b _ => n - (intOf b).toNat)
      case atStart => exact ⟨h, h, Nat.le_refl _, hh, rfl, rfl, (by show h = min h p; omega), rfl⟩
      case round =>
        obtain ⟨j, M, hj0, hj, rfl, rfl, hM, rfl⟩ := hrel
        by_cases hjn : j < n
        · obtain ⟨b, off, rfl, hb0, hcells⟩ := hat.out (by omega)
          have c1 := (B6.out.cell (p := ⟨b, off + j, none⟩) hb0).trans (hcells j hjn)
          have jn : (j : Int) < (n : Int) := by omega
          have hM2 : M ≤ n := by have := hM.out; omega
          by_cases hjp : j < p
          · have hle := LO.out j hj0 hjp
            have HM : Hid (M + 1 = min (j + 1) p) := by have := hM.out; show M + 1 = min (j + 1) p; omega
            obtain ⟨zj, hzj⟩ : ∃ y, z j = y := ⟨_, rfl⟩
            rw [hzj] at c1 hle
            clear hzj hcells
            go_wp2
            go_roundw
            case rel => exact ⟨j + 1, M + 1, by omega, by omega, by go_num, by go_num, HM, trivial⟩
            case measure => simp [intOf]; omega
          · have hgt := HI.out j (by omega) hjn
            have HM : Hid (M = min (j + 1) p) := by have := hM.out; show M = min (j + 1) p; omega
            obtain ⟨zj, hzj⟩ : ∃ y, z j = y := ⟨_, rfl⟩
            rw [hzj] at c1 hgt
            have hnle : ¬ zj ≤ x := by omega
            clear hzj hcells
            go_wp2
            go_roundw
            case rel => exact ⟨j + 1, M, by omega, by omega, by go_num, rfl, HM, trivial⟩
            case measure => simp [intOf]; omega
        · have jn : ¬ (j : Int) < (n : Int) := by omega
          have hMp : M = p := by have := hM.out; omega
          subst hMp
          go_wp2_with fail
          refine (qhead_any bq (h : Int) _ q2).mono ?_
          rintro e w7 ⟨rfl, hw7⟩
          rw [hw7]
          clear hw7 w7
          go_wp2_with fail
          refine (qstage_any bq st _ q0).mono ?_
          rintro e w7 ⟨rfl, hw7⟩
          rw [hw7]
          clear hw7 w7
          go_wp2_with fail
          refine (qjobs_any bq _ _ _ _ q1).mono ?_
          rintro e w7 ⟨rfl, hw7⟩
          rw [hw7]
          clear hw7 w7
          go_wp2_with fail
          refine (inserted_any g cap W.heap.size n M J (jb W.heap.size) _ (by omega) hpn R6.out GG).mono ?_
          rintro e w7 ⟨rfl, hw7⟩
          rw [hw7]
          clear hw7 w7
          go_wp2_with fail
          go_ret
          exact ⟨rfl, B6.out⟩
end Go.Proofs.Qxb6612366a
