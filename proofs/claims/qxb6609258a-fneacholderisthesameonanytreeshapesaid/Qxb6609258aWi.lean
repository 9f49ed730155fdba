/-
  WALKS (i): the law itself.
-/
import Derived.Test.Qxb6609258aWh
namespace Go.Proofs.Qxb6609258a
open Go.RowKit

theorem chain_any (FL H : Nat → Int) (l : List Nat) (n bf bh bp : Nat) (w : World) (hn : n ≤ 4096) (hlen : l.length = n) (hperm : l.Perm (List.range n))
    (hf : w.rowIs bf 38 n (fun i => .int .u64 (FL i))) (hh : w.rowIs bh 38 n (fun i => .int .u64 (H i))) (hp : PRow w bp n l) :
    Calls Try.prog 16 #[.slice (some ⟨bf, 0, none⟩) n n, .slice (some ⟨bh, 0, none⟩) n n, .slice (some ⟨bp, 0, none⟩) n n] w
      fun e w' => ∃ (N : Nat → Nat → Int), e = .returned (.tuple #[.slice (some ⟨w.heap.size, 0, none⟩) n n, .int .i32 (topOf l n)]) ∧
        NRow w' w.heap.size n N ∧ Below w.heap.size w w' ∧ Tree FL H n N n (topOf l n) l := by
  by_cases h0 : n = 0
  · have hl : l = [] := List.length_eq_zero_iff.1 (by omega)
    have ht : topOf l n = -1 := by simp [topOf, h0]
    rw [ht, hl]
    exact chain_zero FL H n bf bh bp w h0
  · exact chain_pos FL H l n bf bh bp w hn (by omega) hlen hperm hf hh hp

theorem own_below {w w' : World} {base n : Nat} {v : Value} {xs : List Value} (h : w.ownsRow base 3 1 v n xs) (hb : Below w.heap.size w w') : w'.ownsRow base 3 1 v n xs :=
  h.kept (row := none) ⟨hb.os, hb.tape, hb.output, hb.size, fun k hk _ => hb.block k hk⟩ (by cases v.ownBlock <;> simp)
theorem own_shape {w : World} {base : Nat} {v : Value} {xs : List Nat} (h : w.ownsRow base 3 1 v xs.length (intsV xs)) :
    ∃ p cap, v = .slice p xs.length cap ∧ IntsAt w p xs.length (fun i => ((xs.getD i 0 : Nat) : Int)) := by
  have h' := h
  rcases h.2 with ⟨rfl, h0⟩ | ⟨g, cap, cur, rfl, hg, hh, h3, h4, h5, h6⟩
  · exact ⟨none, 0, by rw [h0], fun hp => by omega⟩
  · refine ⟨some ⟨g, 0, none⟩, cap, rfl, fun _ => ⟨g, rfl, fun i hi => ?_⟩⟩
    have := h'.cells (g := g) rfl i (.int .i64 ((xs.getD i 0 : Nat) : Int)) (by simp [intsV, List.getElem?_eq_getElem hi])
    rw [Addr.add_lit, Nat.zero_add] at this
    exact this
theorem cp_tree {FL H : Nat → Int} {n d : Nat} {N : Nat → Nat → Int} {t : Int} {l : List Nat} (hperm : l.Perm (List.range n)) (h : Tree FL H n N d t l) : Tree FL H n (fun j c => if c < 7 then cpN N n j c else N j c) d t l :=
  tree_congr d _ _ (fun j hj c => by
    have : j < n := by simpa using hperm.mem_iff.1 hj
    by_cases hc : c < 7 <;> simp [cpN, hc, this]) h
theorem cp_tree7 {FL H : Nat → Int} {n : Nat} {N M : Nat → Nat → Int} (e : ∀ j c, c < 7 → M j c = N j c) (d : Nat) : ∀ (t : Int) (s : List Nat), Tree FL H n N d t s → Tree FL H n M d t s := by
  induction d with
  | zero => intro t s h; unfold Tree at h ⊢; exact h
  | succ d ih =>
    intro t s h
    unfold Tree at h ⊢
    rcases h with h | ⟨k, s1, s2, ht, hk, hs, h0, h1, hl, hr, hf, hh⟩
    · exact .inl h
    · refine .inr ⟨k, s1, s2, ht, hk, hs, by rw [e k 0 (by omega)]; exact h0, by rw [e k 1 (by omega)]; exact h1, ?_, ?_, fun j hj => by rw [e k 3 (by omega)]; exact hf j hj, hh⟩
      · rw [e k 4 (by omega)]; exact ih _ _ hl
      · rw [e k 5 (by omega)]; exact ih _ _ hr
theorem tree_cp {FL H : Nat → Int} {n d : Nat} {N : Nat → Nat → Int} {t : Int} {l : List Nat} (hperm : l.Perm (List.range n)) (h : Tree FL H n N d t l) : Tree FL H n (cpN N n) d t l :=
  cp_tree7 (fun j c hc => by simp [hc]) d t l (cp_tree hperm h)

def cnt (FL H : Nat → Int) (lo hi : Int) (k : Nat) : Nat := (fnd FL H lo hi (List.range k)).length
theorem cnt_le (FL H : Nat → Int) (lo hi : Int) (k : Nat) : cnt FL H lo hi k ≤ k := by
  have : (fnd FL H lo hi (List.range k)).length ≤ (List.range k).length := List.length_filter_le _ _
  simpa [cnt] using this
theorem cnt_yes {FL H : Nat → Int} {lo hi : Int} {k : Nat} (h : H k < hi ∧ lo < FL k) : cnt FL H lo hi (k + 1) = cnt FL H lo hi k + 1 := by
  unfold cnt; rw [List.range_succ, fnd_snoc, if_pos h]
theorem cnt_no {FL H : Nat → Int} {lo hi : Int} {k : Nat} (h : ¬ (H k < hi ∧ lo < FL k)) : cnt FL H lo hi (k + 1) = cnt FL H lo hi k := by
  unfold cnt; rw [List.range_succ, fnd_snoc, if_neg h]; rfl

set_option maxRecDepth 100000 in
set_option maxHeartbeats 2000000 in
theorem law_in (at0 : Option Addr) (n c : Nat) (FL H : Nat → Int) (lo hi : Int) (w : World) (hn : n ≤ 4096) (hat : Hid (SpAt w at0 n FL H)) :
    Calls Try.prog 5 #[.slice at0 n c, .int .u64 lo, .int .u64 hi] w fun e w' => e = .returned (.bool true) ∧ Below w.heap.size w w' := by
  have hd4 : decide ((4096 : Int) < (n : Int)) = false := decide_eq_false (by omega)
  go_enter Try.func5, Try.ntmps5
  go_wp2_with (go_at_call 15; refine (bytes_yes at0 n c lo hi _ (by omega)).mono ?_; rintro e w' ⟨rfl, hw⟩; rw [hw])
  refine (split_any at0 n c FL H w hn hat).mono ?_
  rintro e w1 ⟨rfl, r1, r2, b1, hs1⟩
  have s1 : w.heap.size + 1 < w1.heap.size := by omega
  clear hs1
  go_wp2_with fail
  refine (order_any _ n H w1 hn r2).mono ?_
  rintro e w2 ⟨rfl, l, pr, hperm, hsort, b2, hs2⟩
  have hlen : l.length = n := by simpa using hperm.length_eq
  have s2 : w1.heap.size < w2.heap.size := by omega
  have r1 := row_below r1 b2 (by omega)
  have r2 := row_below r2 b2 (by omega)
  have b2 := b1.trans (b2.mono (by omega))
  clear hs2 b1
  go_wp2_with fail
  refine (balanced_any FL H l n _ _ _ w2 hn hlen hperm hsort r1 r2 pr).mono ?_
  rintro e w3 ⟨t1, N1, rfl, n1, b3, tr1⟩
  have r1 := row_below r1 b3 (by omega)
  have r2 := row_below r2 b3 (by omega)
  have pr : PRow w3 w1.heap.size n l := row_below pr b3 (by omega)
  have s3 := World.rowIs.lt n1
  have b3 := b2.trans (b3.mono (by omega))
  clear b2
  go_wp2_with fail
  refine (chain_any FL H l n _ _ _ w3 hn hlen hperm r1 r2 pr).mono ?_
  rintro e w4 ⟨N2, rfl, n2, b4, tr2⟩
  have r1 := row_below r1 b4 (by omega)
  have r2 := row_below r2 b4 (by omega)
  have n1 : NRow w4 w2.heap.size n N1 := row_below n1 b4 (by omega)
  have s4 := World.rowIs.lt n2
  have b4 := b3.trans (b4.mono (by omega))
  clear b3 pr
  go_wp2_with fail
  refine (index_any _ n t1 N1 w4 hn n1).mono ?_
  rintro e w5 ⟨rfl, x1, y1, b5⟩
  have r1 := row_below r1 b5 (by omega)
  have r2 := row_below r2 b5 (by omega)
  have n2 : NRow w5 w3.heap.size n N2 := row_below n2 b5 (by omega)
  have s5 := World.rowIs.lt y1
  have b5 := b4.trans (b5.mono (by omega))
  clear b4 n1
  go_wp2_with fail
  refine (zzEach_any FL H n _ n _ lo hi t1 l w5 hn x1 y1 (tree_cp hperm tr1) (by omega)).mono ?_
  rintro e w6 ⟨v1, rfl, o1, b6⟩
  have r1 := row_below r1 b6 (by omega)
  have r2 := row_below r2 b6 (by omega)
  have n2 : NRow w6 w3.heap.size n N2 := row_below n2 b6 (by omega)
  have s6 := b6.size
  have b6 := b5.trans (b6.mono (by omega))
  clear b5 x1 y1 tr1
  go_wp2_with fail
  refine (index_any _ n (topOf l n) N2 w6 hn n2).mono ?_
  rintro e w7 ⟨rfl, x2, y2, b7⟩
  have r1 := row_below r1 b7 (by omega)
  have r2 := row_below r2 b7 (by omega)
  have o1 := own_below o1 b7
  have s7 := World.rowIs.lt y2
  have b7 := b6.trans (b7.mono (by omega))
  clear b6 n2
  go_wp2_with fail
  refine (zzEach_any FL H n _ n _ lo hi (topOf l n) l w7 hn x2 y2 (tree_cp hperm tr2) (by omega)).mono ?_
  rintro e w8 ⟨v2, rfl, o2, b8⟩
  have r1 := row_below r1 b8 (by omega)
  have r2 := row_below r2 b8 (by omega)
  have o1 := own_below o1 b8
  have b8 := b7.trans (b8.mono (by omega))
  clear b7 x2 y2 tr2
  obtain ⟨p1, k1, rfl, i1⟩ := own_shape o1
  obtain ⟨p2, k2, rfl, i2⟩ := own_shape o2
  have EL : Hid ((fnd FL H lo hi l).length = (fnd FL H lo hi (List.range n)).length) := fnd_perm hperm
  obtain ⟨m, hm⟩ : ∃ m, (fnd FL H lo hi l).length = m := ⟨_, rfl⟩
  rw [hm] at EL i1 i2
  have hm4 : m ≤ 4096 := by
    have : (fnd FL H lo hi l).length ≤ l.length := List.length_filter_le _ _
    omega
  have I1 : Hid (IntsAt w8 p1 m _) := i1
  have I2 : Hid (IntsAt w8 p2 m _) := i2
  rw [hm]
  clear o1 o2 i1 i2 hm hperm hsort hlen
  have B8 : Hid (Below w.heap.size w w8) := b8
  clear b8
  have EC : Hid (m = cnt FL H lo hi n) := EL.out
  clear EL
  go_wp2_with fail
  go_loop [19, 20] (fun a i => ∃ k : Nat, k ≤ n ∧ i = .int .i64 k ∧ a = .int .i64 (cnt FL H lo hi k : Int)) (fun _ i => n - (intOf i).toNat)
  case atStart => exact ⟨0, Nat.zero_le _, rfl, rfl⟩
  case round =>
    obtain ⟨k, hk, rfl, rfl⟩ := hrel
    by_cases hlt : k < n
    · have x1 := r1.cell hlt
      have x2 := r2.cell hlt
      have cl := cnt_le FL H lo hi k
      by_cases c1 : H k < hi
      · have g1 : decide (H k < hi) = true := by simpa using c1
        by_cases c2 : lo < FL k
        · have E : Hid (cnt FL H lo hi (k + 1) = cnt FL H lo hi k + 1) := cnt_yes ⟨c1, c2⟩
          go_wp2_with fail
          go_round
          case rel => exact ⟨k + 1, by omega, by go_num, by rw [E.out]; go_num⟩
          case measure => simp [intOf]; omega
        · have E : Hid (cnt FL H lo hi (k + 1) = cnt FL H lo hi k) := cnt_no (fun e => c2 e.2)
          go_wp2_with fail
          go_round
          case rel => exact ⟨k + 1, by omega, by go_num, by rw [E.out]⟩
          case measure => simp [intOf]; omega
      · have g1 : decide (H k < hi) = false := by simpa using c1
        have E : Hid (cnt FL H lo hi (k + 1) = cnt FL H lo hi k) := cnt_no (fun e => c1 e.1)
        go_wp2_with fail
        go_round
        case rel => exact ⟨k + 1, by omega, by go_num, by rw [E.out]⟩
        case measure => simp [intOf]; omega
    · obtain rfl : k = n := by omega
      rw [show cnt FL H lo hi k = m from EC.out.symm]
      have em : ((m : Int) == (m : Int)) = true := by simp
      go_wp2_with (go_at_call 18; refine (eq_any p1 p2 m k1 k2 _ _ hm4 I1 I2).mono ?_; rintro e w9 ⟨rfl, q, rfl⟩)
      go_ret
      exact ⟨rfl, below_drewN B8.out⟩

theorem law_any (at0 : Option Addr) (n c : Nat) (FL H : Nat → Int) (lo hi : Int) (w : World) (hat : SpAt w at0 n FL H) :
    Calls Try.prog 5 #[.slice at0 n c, .int .u64 lo, .int .u64 hi] w fun e w' => e = .returned (.bool true) ∧ Below w.heap.size w w' := by
  by_cases h1 : n ≤ 4096
  · exact law_in at0 n c FL H lo hi w h1 hat
  · by_cases h2 : n ≤ 1048576
    · clear hat
      go_enter Try.func5, Try.ntmps5
      go_wp2_with (go_at_call 15; refine (bytes_yes at0 n c lo hi _ h2).mono ?_; rintro e w' ⟨rfl, hw⟩; rw [hw])
      go_ret
      exact ⟨rfl, Below.refl _ _⟩
    · clear hat
      go_enter Try.func5, Try.ntmps5
      go_wp2_with (go_at_call 15; refine (bytes_no at0 n c lo hi _ (by omega)).mono ?_; rintro e w' ⟨rfl, hw⟩; rw [hw])
      go_ret
      exact ⟨rfl, Below.refl _ _⟩
end Go.Proofs.Qxb6609258a
