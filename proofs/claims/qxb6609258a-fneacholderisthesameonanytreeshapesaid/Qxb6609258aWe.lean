/-
  WALKS (e): zzChain.
-/
import Derived.Test.Qxb6609258aWd
namespace Go.Proofs.Qxb6609258a
open Go.RowKit

/-- What tops the chain of the first k. -/
def topOf (l : List Nat) (k : Nat) : Int := if k = 0 then -1 else ((l.getD (k - 1) 0 : Nat) : Int)
theorem tree_none (FL H : Nat → Int) (n : Nat) (N : Nat → Nat → Int) (d : Nat) : Tree FL H n N d (-1) [] := by
  cases d with
  | zero => unfold Tree; exact ⟨rfl, rfl⟩
  | succ d => unfold Tree; exact Or.inl ⟨rfl, rfl⟩
theorem take_snocN (l : List Nat) (k : Nat) (h : k < l.length) : l.take (k + 1) = l.take k ++ [l.getD k 0] := by
  rw [List.take_succ_eq_append_getElem h]; simp [List.getD_eq_getElem?_getD, List.getElem?_eq_getElem h]
/-- One link more. -/
theorem chain_step {FL H : Nat → Int} {n : Nat} {N : Nat → Nat → Int} {l : List Nat} {k t : Nat} {x y par : Int} (hlen : l.length = n) (hperm : l.Perm (List.range n)) (hk : k < n) (ht : l.getD k 0 = t)
    (hT : Tree FL H n N k (topOf l k) (l.take k)) (hy : FL t ≤ y) (hy' : ∀ j ∈ l.take k, FL j ≤ y) :
    Tree FL H n (putN N t (FL t) (H t) x y (topOf l k) (-1) par) (k + 1) (topOf l (k + 1)) (l.take (k + 1)) := by
  have es : l.take (k + 1) = l.take k ++ t :: [] := by rw [take_snocN l k (by omega), ht]
  have nd : t ∉ l.take k := by
    have h : (l.take (k + 1)).Nodup := (List.take_sublist _ _).nodup (hperm.nodup_iff.2 List.nodup_range)
    exact (nodup_parts h es).1
  have e0 : topOf l (k + 1) = (t : Int) := by simp only [topOf]; rw [if_neg (by omega), Nat.add_sub_cancel, ht]
  unfold Tree
  refine .inr ⟨t, l.take k, [], e0, ?_, es, by simp [putN], by simp [putN], ?_, ?_, ?_, by simp⟩
  · rw [← ht]; exact perm_lt hlen hperm hk
  · rw [show putN N t (FL t) (H t) x y (topOf l k) (-1) par t 4 = topOf l k from by simp [putN]]
    exact tree_congr k _ _ (fun j hj c => putN_other (by rintro rfl; exact nd hj) c) hT
  · rw [show putN N t (FL t) (H t) x y (topOf l k) (-1) par t 5 = -1 from by simp [putN]]
    exact tree_none _ _ _ _ _
  · intro j hj
    rw [show putN N t (FL t) (H t) x y (topOf l k) (-1) par t 3 = y from by simp [putN]]
    rw [es] at hj
    simp only [List.mem_append, List.mem_singleton] at hj
    rcases hj with hj | rfl
    · exact hy' j hj
    · exact hy

theorem put_end {w wr : World} {b n : Nat} {N : Nat → Nat → Int} (hN : NRow wr b n N) (hbel : Below b w wr) (hb : b ≤ wr.heap.size) (t : Nat) (a0 a1 a2 a3 a4 a5 a6 : Int) :
    NRow (put7 wr b t a0 a1 a2 a3 a4 a5 a6).drew b n (putN N t a0 a1 a2 a3 a4 a5 a6) ∧ Below b w (put7 wr b t a0 a1 a2 a3 a4 a5 a6).drew :=
  ⟨World.rowIs.drew (w := put7 wr b t a0 a1 a2 a3 a4 a5 a6) (hN.put t a0 a1 a2 a3 a4 a5 a6),
    (hbel.trans ((keep_put (S := [b]) (Keep.refl _ _) (by simp) a0 a1 a2 a3 a4 a5 a6).below (B := b) hb (by simp))).drew⟩

theorem chain_zero (FL H : Nat → Int) (n bf bh bp : Nat) (w : World) (hn : n = 0) :
    Calls Try.prog 16 #[.slice (some ⟨bf, 0, none⟩) n n, .slice (some ⟨bh, 0, none⟩) n n, .slice (some ⟨bp, 0, none⟩) n n] w
      fun e w' => ∃ (N : Nat → Nat → Int), e = .returned (.tuple #[.slice (some ⟨w.heap.size, 0, none⟩) n n, .int .i32 (-1)]) ∧
        NRow w' w.heap.size n N ∧ Below w.heap.size w w' ∧ Tree FL H n N n (-1) [] := by
  subst hn
  have hmk := make53 0 (by omega)
  have hr := nrow_made w 0
  have HR : Hid (NRow (w.alloc (made53 0)) w.heap.size 0 (fun _ _ => 0)) := hr
  clear hr
  simp only [Int.natCast_zero] at hmk
  go_enter Try.func16, Try.ntmps16
  go_wp2
  go_ret2
  exact ⟨_, rfl, HR.out, (Below.refl _ _).alloc (Nat.le_refl _) _, tree_none _ _ _ _ _⟩

set_option maxRecDepth 100000 in
set_option maxHeartbeats 1000000 in
theorem chain_pos (FL H : Nat → Int) (l : List Nat) (n bf bh bp : Nat) (w : World) (hn : n ≤ 4096) (h0 : 0 < n) (hlen : Hid (l.length = n)) (hperm : Hid (l.Perm (List.range n)))
    (hf : w.rowIs bf 38 n (fun i => .int .u64 (FL i))) (hh : w.rowIs bh 38 n (fun i => .int .u64 (H i))) (hp : PRow w bp n l) :
    Calls Try.prog 16 #[.slice (some ⟨bf, 0, none⟩) n n, .slice (some ⟨bh, 0, none⟩) n n, .slice (some ⟨bp, 0, none⟩) n n] w
      fun e w' => ∃ (N : Nat → Nat → Int), e = .returned (.tuple #[.slice (some ⟨w.heap.size, 0, none⟩) n n, .int .i32 (topOf l n)]) ∧
        NRow w' w.heap.size n N ∧ Below w.heap.size w w' ∧ Tree FL H n N n (topOf l n) l := by
  have hmk := make53 n hn
  have l1 := hf.lt
  have l2 := hh.lt
  have l3 := World.rowIs.lt hp
  have hr : Hid (NRow (w.alloc (made53 n)) w.heap.size n (fun _ _ => 0)) := nrow_made w n
  have z0 : ((n : Int) == 0) = false := by simp; omega
  go_enter Try.func16, Try.ntmps16
  go_wp2
  go_loopw [10, 11, 12] (fun a b i wr => ∃ (k : Nat) (x y : Int) (N : Nat → Nat → Int), k ≤ n ∧ a = .int .u64 x ∧ b = .int .u64 y ∧ i = .int .i64 k ∧ NRow wr w.heap.size n N ∧ Below w.heap.size w wr ∧
      Hid (∀ j ∈ l.take k, FL j ≤ y) ∧ Hid (Tree FL H n N k (topOf l k) (l.take k)))
    (fun _ _ i _ => n - (intOf i).toNat)
  case atStart => exact ⟨0, 0, 0, _, Nat.zero_le _, rfl, rfl, rfl, hr.out, (Below.refl _ _).alloc (Nat.le_refl _) _, fun j hj => by simp at hj, by show Tree FL H n _ 0 (topOf l 0) (l.take 0); simpa [topOf] using tree_none FL H n _ 0⟩
  case round =>
    obtain ⟨k, x, y, N, hk, rfl, rfl, rfl, hN, hbel, HY, HT⟩ := hrel
    by_cases hlt : k < n
    · have ct := (hbel.cell (p := ⟨bp, k, none⟩) l3).trans (hp.cell hlt)
      have htn := perm_lt hlen.out hperm.out hlt
      obtain ⟨t, ht⟩ : ∃ t, l.getD k 0 = t := ⟨_, rfl⟩
      rw [ht] at ct htn
      have HTT : Hid (l.getD k 0 = t) := ht
      clear ht
      have tn : (t : Int) < (n : Int) := by omega
      have cf := (hbel.cell (p := ⟨bf, t, none⟩) l1).trans (hf.cell htn)
      have ch := (hbel.cell (p := ⟨bh, t, none⟩) l2).trans (hh.cell htn)
      by_cases hk0 : k = 0
      · subst hk0
        have q0 : wr.cell? ⟨w.heap.size, t * 7, none⟩ = some (.int .u64 (N t 0)) := hN.cell htn 0 (by omega)
        have q1 : wr.cell? ⟨w.heap.size, t * 7 + 1, none⟩ = some (.int .u64 (N t 1)) := hN.cell htn 1 (by omega)
        have q2 : wr.cell? ⟨w.heap.size, t * 7 + 2, none⟩ = some (.int .u64 (N t 2)) := hN.cell htn 2 (by omega)
        have q3 : wr.cell? ⟨w.heap.size, t * 7 + 3, none⟩ = some (.int .u64 (N t 3)) := hN.cell htn 3 (by omega)
        have q4 : wr.cell? ⟨w.heap.size, t * 7 + 4, none⟩ = some (.int .i32 (N t 4)) := hN.cell htn 4 (by omega)
        have q5 : wr.cell? ⟨w.heap.size, t * 7 + 5, none⟩ = some (.int .i32 (N t 5)) := hN.cell htn 5 (by omega)
        have q6 : wr.cell? ⟨w.heap.size, t * 7 + 6, none⟩ = some (.int .i32 (N t 6)) := hN.cell htn 6 (by omega)
        have f0 := fun i => hN.frozen i
        go_upto_if 71 with fail
        go_cut [15] (fun a wc => ∃ par : Int, a = .int .i32 par ∧ wr = wc)
        case first =>
          by_cases h1 : 1 < n
          · have c1 := (hbel.cell (p := ⟨bp, 1, none⟩) l3).trans (hp.cell h1)
            have h1n := perm_lt hlen.out hperm.out h1
            have h1i : (1 : Int) < (n : Int) := by omega
            obtain ⟨s, hs⟩ : ∃ s, l.getD 1 0 = s := ⟨_, rfl⟩
            rw [hs] at c1 h1n
            clear hs
            go_wp2
            go_meet
            exact ⟨_, rfl, rfl⟩
          · have h1i : ¬ (1 : Int) < (n : Int) := by omega
            go_wp2
            go_meet
            exact ⟨_, rfl, rfl⟩
        case rest =>
          obtain ⟨par, rfl, rfl⟩ := hcut
          have R := chain_step (x := FL t) (y := FL t) (par := par) hlen.out hperm.out hlt HTT.out HT.out (Int.le_refl _) (fun j hj => by simp at hj)
          have RN := put_end hN hbel hbel.size t (FL t) (H t) (FL t) (FL t) (topOf l 0) (-1) par
          rw [show topOf l 0 = -1 from rfl] at R RN
          have HR : Hid (Tree FL H n (putN N t (FL t) (H t) (FL t) (FL t) (-1) (-1) par) (0 + 1) (topOf l (0 + 1)) (l.take (0 + 1))) := R
          obtain ⟨rn1, rn2⟩ := RN
          have HN : Hid (NRow _ _ _ _) := rn1
          have HB : Hid (Below _ _ _) := rn2
          clear rn1 rn2
          have HY2 : Hid (∀ j ∈ l.take 1, FL j ≤ FL t) := by
            intro j hj
            rw [take_snocN l 0 (by rw [hlen.out]; omega), HTT.out] at hj
            simp at hj
            subst hj; exact Int.le_refl _
          clear R HT HY
          go_wp2_with fail
          go_region
          go_wp2_with fail
          go_roundw
          case rel => exact ⟨0 + 1, FL t, FL t, putN N t (FL t) (H t) (FL t) (FL t) (-1) (-1) par, by omega, rfl, rfl, by go_num, HN.out, HB.out, HY2, HR⟩
          case measure => simp [intOf]; omega
      · obtain ⟨m, rfl⟩ : ∃ m, k = m + 1 := ⟨k - 1, by omega⟩
        clear hk0
        have cm := (hbel.cell (p := ⟨bp, m, none⟩) l3).trans (hp.cell (by omega))
        have hmn := perm_lt hlen.out hperm.out (m := m) (by omega)
        have etop : Hid (topOf l (m + 1) = ((l.getD m 0 : Nat) : Int)) := by show topOf l (m + 1) = _; simp [topOf]
        obtain ⟨s, hs⟩ : ∃ s, l.getD m 0 = s := ⟨_, rfl⟩
        rw [hs] at cm hmn etop
        clear hs
        have k0 : ((m : Int) + 1 == 0) = false := by simp; omega
        have q0 : wr.cell? ⟨w.heap.size, t * 7, none⟩ = some (.int .u64 (N t 0)) := hN.cell htn 0 (by omega)
        have q1 : wr.cell? ⟨w.heap.size, t * 7 + 1, none⟩ = some (.int .u64 (N t 1)) := hN.cell htn 1 (by omega)
        have q2 : wr.cell? ⟨w.heap.size, t * 7 + 2, none⟩ = some (.int .u64 (N t 2)) := hN.cell htn 2 (by omega)
        have q3 : wr.cell? ⟨w.heap.size, t * 7 + 3, none⟩ = some (.int .u64 (N t 3)) := hN.cell htn 3 (by omega)
        have q4 : wr.cell? ⟨w.heap.size, t * 7 + 4, none⟩ = some (.int .i32 (N t 4)) := hN.cell htn 4 (by omega)
        have q5 : wr.cell? ⟨w.heap.size, t * 7 + 5, none⟩ = some (.int .i32 (N t 5)) := hN.cell htn 5 (by omega)
        have q6 : wr.cell? ⟨w.heap.size, t * 7 + 6, none⟩ = some (.int .i32 (N t 6)) := hN.cell htn 6 (by omega)
        have f0 := fun i => hN.frozen i
        go_upto_if 41 with fail
        go_cut [10] (fun a wc => ∃ x' : Int, a = .int .u64 x' ∧ wr = wc)
        case first =>
          go_wp2
          all_goals
            go_meet
            exact ⟨_, rfl, rfl⟩
        case rest =>
          obtain ⟨x', rfl, rfl⟩ := hcut
          go_upto_if 55 with fail
          go_cut [11] (fun a wc => ∃ y' : Int, a = .int .u64 y' ∧ y ≤ y' ∧ FL t ≤ y' ∧ wr = wc)
          case first =>
            go_wp2
            all_goals
              go_meet
              exact ⟨_, rfl, by omega, by omega, rfl⟩
          case rest =>
            obtain ⟨y', rfl, hy1, hy2, rfl⟩ := hcut
            go_upto_if 71 with fail
            go_cut [15] (fun a wc => ∃ par : Int, a = .int .i32 par ∧ wr = wc)
            case first =>
              by_cases h1 : m + 1 + 1 < n
              · have c1 := (hbel.cell (p := ⟨bp, m + 1 + 1, none⟩) l3).trans (hp.cell h1)
                have h1n := perm_lt hlen.out hperm.out h1
                have h1i : (m : Int) + 1 + 1 < (n : Int) := by omega
                obtain ⟨s2, hs2⟩ : ∃ s2, l.getD (m + 1 + 1) 0 = s2 := ⟨_, rfl⟩
                rw [hs2] at c1 h1n
                clear hs2
                go_wp2
                go_meet
                exact ⟨_, rfl, rfl⟩
              · have h1i : ¬ (m : Int) + 1 + 1 < (n : Int) := by omega
                go_wp2
                go_meet
                exact ⟨_, rfl, rfl⟩
            case rest =>
              obtain ⟨par, rfl, rfl⟩ := hcut
              have HY2 : Hid (∀ j ∈ l.take (m + 1 + 1), FL j ≤ y') := by
                intro j hj
                rw [take_snocN l (m + 1) (by rw [hlen.out]; omega), HTT.out] at hj
                simp only [List.mem_append, List.mem_singleton] at hj
                rcases hj with hj | rfl
                · have := HY.out j hj; omega
                · exact hy2
              have R := chain_step (x := x') (y := y') (par := par) hlen.out hperm.out hlt HTT.out HT.out hy2 (fun j hj => by have := HY.out j hj; omega)
              have RN := put_end hN hbel hbel.size t (FL t) (H t) x' y' (topOf l (m + 1)) (-1) par
              rw [show topOf l (m + 1) = (s : Int) from etop.out] at R RN
              have HR : Hid (Tree FL H n (putN N t (FL t) (H t) x' y' (s : Int) (-1) par) (m + 1 + 1) (topOf l (m + 1 + 1)) (l.take (m + 1 + 1))) := R
              obtain ⟨rn1, rn2⟩ := RN
              have HN : Hid (NRow _ _ _ _) := rn1
              have HB : Hid (Below _ _ _) := rn2
              clear rn1 rn2
              clear R HT HY
              go_wp2_with fail
              go_region
              go_wp2_with fail
              go_roundw
              case rel => exact ⟨m + 1 + 1, x', y', putN N t (FL t) (H t) x' y' (s : Int) (-1) par, by omega, rfl, rfl, by go_num, HN.out, HB.out, HY2, HR⟩
              case measure => simp [intOf]; omega
    · obtain rfl : k = n := by omega
      have cn := (hbel.cell (p := ⟨bp, k - 1, none⟩) l3).trans (hp.cell (by omega))
      have hmn := perm_lt hlen.out hperm.out (m := k - 1) (by omega)
      have etop : Hid (topOf l k = ((l.getD (k - 1) 0 : Nat) : Int)) := by show topOf l k = _; unfold topOf; rw [if_neg (by omega)]
      obtain ⟨s, hs⟩ : ∃ s, l.getD (k - 1) 0 = s := ⟨_, rfl⟩
      rw [hs] at cn hmn etop
      clear hs
      have b1 : (0 : Int) ≤ (k : Int) - 1 := by omega
      go_wp2
      go_quiet (fail)
      go_wp2
      go_ret2
      refine ⟨N, ?_, hN, below_drewN hbel, ?_⟩
      · rw [etop.out]; rfl
      · have e : l.take k = l := List.take_of_length_le (by rw [hlen.out]; exact Nat.le_refl _)
        have := HT.out
        rw [e] at this
        exact this
end Go.Proofs.Qxb6609258a
