/-
  WALKS (v): FnQueuePushKeepsPendingJobsSortedStably, walked.
-/
import Derived.Test.Qxb6612366aWu
namespace Go.Proofs.Qxb6612366a
open Go.RowKit

set_option maxRecDepth 100000 in
set_option maxHeartbeats 2000000 in
theorem keeps_any (at0 : Option Addr) (n c : Nat) (z : Nat → Int) (w : World) (hn : n ≤ 4096) (hat : Hid (InAt w at0 n z)) (hz : Hid (Fits n z)) :
    Calls Try.prog 4 #[.slice at0 n c] w fun e w' => e = .returned (.bool true) ∧ Below w.heap.size w w' := by
  have hnn : ¬ (4096 : Int) < (n : Int) := by omega
  go_enter Try.func4, Try.ntmps4
  go_wp2_with fail
  refine (bytes1_yes at0 n c w (by omega)).mono ?_
  rintro e w0 ⟨rfl, hw0⟩
  rw [hw0]
  clear hw0 w0
  go_wp2_with fail
  refine (jobs_any at0 n c z w (by omega) hat hz).mono ?_
  rintro e w1 ⟨rfl, hrow, hjobs, hbel, hsz⟩
  go_wp2_with fail
  refine (newq_any _ _ _ _ _ w1).mono ?_
  rintro e w2 ⟨rfl, hw2⟩
  have M2 : Hid (Made w2 w1.heap.size w.heap.size n z) := by
    rw [hw2]
    exact ⟨hrow.alloc _, fun i hi => (hjobs i hi).of_block (Below.heap_alloc _ _ _ (hjobs i hi).lt), hsz⟩
  have H2 : Hid (Held w2 w1.heap.size w.heap.size [] (.slice none 0 0)) := by
    rw [hw2]
    exact ⟨heap_alloc_new w1 _, World.ownsRow_nil _ _ _ _⟩
  have B2 : Hid (Below w.heap.size w w2) := by
    rw [hw2]
    exact hbel.alloc (by omega) _
  obtain ⟨bq, hbq⟩ : ∃ bq, bq = w1.heap.size := ⟨_, rfl⟩
  rw [← hbq] at M2 H2 ⊢
  have hbs : w.heap.size < bq := by omega
  clear hw2 hrow hjobs hbel hsz hbq w1
  go_wp2_with fail
  go_loopw [6] (fun i wr => ∃ (k : Nat) (l : List Nat) (v : Value), k ≤ n ∧ i = .int .i64 (k : Int) ∧ Hid (l.Perm (List.range k)) ∧ Hid (Srt z l) ∧ Hid (Held wr bq w.heap.size l v) ∧ Hid (Below bq w2 wr))
    (fun i _ => n - (intOf i).toNat)
  case atStart => exact ⟨0, [], _, Nat.zero_le _, rfl, List.Perm.refl _, List.Pairwise.nil, H2, Below.refl _ _⟩
  case round =>
    obtain ⟨k, l, v, hk, rfl, hl, hs, hh, hb⟩ := hrel
    have MR : Hid (Made wr bq w.heap.size n z) := M2.out.below hb.out
    by_cases hlt : k < n
    · have c1 := MR.out.row.cell hlt
      have kn : (k : Int) < (n : Int) := by omega
      unfold jp at c1
      go_wp2_with fail
      refine (qpush_any bq (bq + 1) 0 k (jb w.heap.size k) v ⟨#[]⟩ (l.map (jb w.heap.size)) (TT w.heap.size z) wr (held_pushAt hh.out MR.out hl.out hlt) (held_aged (by simpa using hl.out.length_eq) hs.out) (by omega) (by omega)).mono ?_
      rintro e w3 ⟨rfl, v', r, hw, hp⟩
      have D : Hid (_ ∧ _ ∧ _ ∧ _) := held_pushed hh.out hl.out hs.out hw hp
      clear hw hp c1
      go_wp2_with fail
      go_roundw
      case rel => exact ⟨k + 1, insAt l r k, v', by omega, by go_num, D.out.2.1, D.out.2.2.1, D.out.1, Below.trans hb.out D.out.2.2.2⟩
      case measure => simp [intOf]; omega
    · have hnl : ¬ (k : Int) < (n : Int) := by omega
      have hkn : k = n := by omega
      obtain ⟨a, cap, hv, hgot⟩ := held_got hh.out
      have hlen : l.length = k := by simpa using hl.out.length_eq
      rw [hlen, hkn] at hv hgot
      rw [hkn] at hl hnl
      obtain ⟨_, q1, q2, _⟩ := hh.out.q.cells
      rw [hv] at q1
      have HG : Hid (0 < n → ∃ g, a = some ⟨g, 0, none⟩ ∧ ∀ j x, l[j]? = some x → wr.cell? ⟨g, j, none⟩ = some (.pointer (some ⟨jb w.heap.size x, 0, none⟩))) := hgot
      have HB : Hid (Below w.heap.size w wr) := B2.out.trans (hb.out.mono (by omega))
      subst hkn
      clear hh hb hv hgot hlen hlt hk H2 M2 B2
      go_wp2_with fail
      refine (qjobs_any bq a k cap wr q1).mono ?_
      rintro e w3 ⟨rfl, hw3⟩
      rw [hw3]
      clear hw3 w3
      go_wp2_with fail
      refine (qhead_any bq 0 wr q2).mono ?_
      rintro e w3 ⟨rfl, hw3⟩
      rw [hw3]
      clear hw3 w3
      obtain ⟨W, hW⟩ : ∃ W, W = wr := ⟨_, rfl⟩
      subst hW
      clear q1 q2
      go_wp2_with fail
      go_loopw [8, 9, 10] (fun i _ _ wx => ∃ m : Nat, m ≤ k ∧ i = .int .i64 (m : Int) ∧ Hid (Below W.heap.size W wx)) (fun i _ _ _ => k - (intOf i).toNat)
      case atStart => exact ⟨0, Nat.zero_le _, rfl, Below.refl _ _⟩
      case round =>
        obtain ⟨m, hm, rfl, hbx⟩ := hrel
        by_cases hmk : m < k
        · obtain ⟨b, off, rfl, hb0, hcells⟩ := hat.out (by omega)
          obtain ⟨g, rfl, hgot⟩ := HG.out (by omega)
          have HC : Hid (∀ j, j < k → W.cell? ⟨b, off + j, none⟩ = some (.int .i64 (z j))) := fun j hj => (HB.out.cell (p := ⟨b, off + j, none⟩) hb0).trans (hcells j hj)
          have HR : Hid (W.cell? ⟨g, rk z m k, none⟩ = some (.pointer (some ⟨jb w.heap.size m, 0, none⟩))) := hgot _ _ (rank_at hl.out hs.out hmk)
          have HRl : Hid (rk z m k < k) := by
            have := rank_at hl.out hs.out hmk
            have h2 := (List.getElem?_eq_some_iff.1 this).1
            have h3 : l.length = k := by simpa using hl.out.length_eq
            show rk z m k < k
            omega
          have HJ : Hid (W.cell? ⟨w.heap.size, m, none⟩ = some (.pointer (some ⟨jb w.heap.size m, 0, none⟩))) := MR.out.row.cell hmk
          have mk : (m : Int) < (k : Int) := by omega
          clear hcells hgot
          go_wp2
          go_loopw [9, 10] (fun r q wy => ∃ j : Nat, j ≤ k ∧ q = .int .i64 (j : Int) ∧ r = .int .i64 ((rk z m j : Nat) : Int) ∧ Hid (Below W.heap.size W wy)) (fun _ q _ => k - (intOf q).toNat)
          case atStart => exact ⟨0, Nat.zero_le _, rfl, rfl, hbx⟩
          case round =>
            clear hbx
            obtain ⟨j, hj, rfl, rfl, hby⟩ := hrel
            by_cases hjk : j < k
            · have cj := cell_below (HC.out j hjk) hby.out
              have cm := cell_below (HC.out m hmk) hby.out
              have hrk := rk_le z m j
              obtain ⟨R, hR⟩ : ∃ R, rk z m j = R := ⟨_, rfl⟩
              have HRR : Hid (rk z m j = R) := hR
              rw [hR] at hrk ⊢
              have HS : Hid (rk z m (j + 1) = R + (if befB z m j = true then 1 else 0)) := by show _ = _; rw [rk_succ, hR]
              clear hR
              have jk : (j : Int) < (k : Int) := by omega
              obtain ⟨zj, hzj⟩ : ∃ x, z j = x := ⟨_, rfl⟩
              obtain ⟨zm, hzm⟩ : ∃ x, z m = x := ⟨_, rfl⟩
              rw [hzj] at cj
              rw [hzm] at cm
              by_cases h1 : zj < zm
              · have hd : decide (zj < zm) = true := by simpa using h1
                have HS2 : Hid (rk z m (j + 1) = R + 1) := by show _ = _; rw [HS.out, befB_lt (by omega), if_pos rfl]
                clear hzj hzm
                go_wp2_with fail
                go_quiet (fail)
                go_wp2
                go_roundw
                case rel => exact ⟨j + 1, by omega, by go_num, by rw [HS2.out]; go_num, below_drewN hby.out⟩
                case measure => simp [intOf]; omega
              · have hd : decide (zj < zm) = false := by simpa using h1
                by_cases h2 : zj = zm
                · subst h2
                  by_cases h3 : j < m
                  · have h3' : (j : Int) < (m : Int) := by omega
                    have HS2 : Hid (rk z m (j + 1) = R + 1) := by show _ = _; rw [HS.out, befB_eq (by omega), decide_eq_true h3, if_pos rfl]
                    clear hzj hzm
                    go_wp2_with fail
                    go_quiet (fail)
                    go_wp2
                    go_roundw
                    case rel => exact ⟨j + 1, by omega, by go_num, by rw [HS2.out]; go_num, below_drewN hby.out⟩
                    case measure => simp [intOf]; omega
                  · have h3' : ¬ (j : Int) < (m : Int) := by omega
                    have HS2 : Hid (rk z m (j + 1) = R) := by show _ = _; rw [HS.out, befB_eq (by omega), decide_eq_false h3]; rfl
                    clear hzj hzm
                    go_wp2_with fail
                    go_quiet (fail)
                    go_wp2
                    go_roundw
                    case rel => exact ⟨j + 1, by omega, by go_num, by rw [HS2.out], below_drewN hby.out⟩
                    case measure => simp [intOf]; omega
                · have hd2 : (zj == zm) = false := by simpa using h2
                  have HS2 : Hid (rk z m (j + 1) = R) := by show _ = _; rw [HS.out, befB_gt (by omega) (by omega)]; rfl
                  clear hzj hzm
                  go_wp2_with fail
                  go_quiet (fail)
                  go_wp2
                  go_roundw
                  case rel => exact ⟨j + 1, by omega, by go_num, by rw [HS2.out], below_drewN hby.out⟩
                  case measure => simp [intOf]; omega
            · have e : j = k := by omega
              subst e
              obtain ⟨R, hR⟩ : ∃ R, rk z m j = R := ⟨_, rfl⟩
              rw [hR] at HR HRl ⊢
              have c1 := cell_below HR.out hby.out
              have c2 := cell_below HJ.out hby.out
              have Rj : (R : Int) < (j : Int) := by have := HRl.out; omega
              have jj : ¬ (j : Int) < (j : Int) := by omega
              have hneq := run_neq_same (jb w.heap.size m)
              clear hR HG
              go_wp2_with fail
              go_quiet (fail)
              go_wp2
              go_roundw
              case rel => exact ⟨m + 1, by omega, by go_num, below_drewN hby.out⟩
              case measure => simp [intOf]; omega
        · have hnm : ¬ (m : Int) < (k : Int) := by omega
          go_wp2
          go_ret
          exact ⟨rfl, HB.out.trans (hbx.out.mono HB.out.size)⟩
end Go.Proofs.Qxb6612366a
