/-
  WALKS (in2): slices.Insert at []*Job: at the end; into a new row; the contract.
-/
import Derived.Test.Qxb6612366aWin
namespace Go.Proofs.Qxb6612366a
open Go.RowKit

set_option maxHeartbeats 1000000 in
set_option maxRecDepth 100000 in
theorem ins_end (base : Nat) (v : Value) (n vb : Nat) (xs : List Value) (p : Value) (w : World) (hown : w.ownsRow base 29 1 v n xs) (hn : n ≤ 1000000) (hbase : base ≤ w.heap.size)
    (hv : w.heap[vb]? = some (.cells #[p] 29 (0, 0))) (hp : p.oneCell' = true) :
    Calls Try.prog 21 #[v, .int .i64 (n : Int), .slice (some ⟨vb, 0, none⟩) 1 1] w fun e w' =>
      ∃ v', e = .returned v' ∧ w'.ownsRow base 29 1 v' (n + 1) (xs ++ [p]) ∧ w.grownBy w' v.ownBlock := by
  obtain ⟨i0, hi, hz0, hz1, hz2⟩ := info_parts Try.info29
  have hnews : ∀ j u, [p][j]? = some u → w.cell? ((⟨vb, 0, none⟩ : Addr).add j) = some u := by
    intro j u hj
    rw [Addr.add_lit]
    match j, hj with
    | 0, hj => simp at hj; subst hj; simp [World.cell?, hv]
  rcases hown.2 with ⟨rfl, rfl⟩ | ⟨g, cap, cur, rfl, hb, hg, hle, hm, hs, ht⟩
  · go_enter Try.func21, Try.ntmps21
    go_wp2_with (at_builtin; refine wpList_append_own _ rfl _ _ 24 rfl base 29 i0 (.pointer none) 1 8 Try.underlying24 hi hz0 hz1 hz2 rfl (by decide) _ _ _ rfl hown ⟨vb, 0, none⟩ 1 1 [p] rfl rfl hnews ?c2 ?c3 ?c4 hbase ?_)
    case c2 => intro u hu; simp at hu; subst hu; exact hp
    case c3 => unfold maxLen; omega
    case c4 => omega
    intro v' w1 hown' hgrow _
    go_wp2
    go_ret
    exact ⟨_, rfl, hown', hgrow⟩
  · have hm' : cap ≤ 9223372036854775807 := by unfold maxLen at hm; omega
    by_cases hc : cap = n
    · go_enter Try.func21, Try.ntmps21
      go_wp2_with (at_builtin; refine wpList_append_own _ rfl _ _ 24 rfl base 29 i0 (.pointer none) 1 8 Try.underlying24 hi hz0 hz1 hz2 rfl (by decide) _ _ _ rfl hown ⟨vb, 0, none⟩ 1 1 [p] rfl rfl hnews ?c2 ?c3 ?c4 hbase ?_)
      case c2 => intro u hu; simp at hu; subst hu; exact hp
      case c3 => unfold maxLen; omega
      case c4 => omega
      intro v' w1 hown' hgrow _
      go_wp2
      go_ret
      exact ⟨_, rfl, hown', hgrow⟩
    · go_enter Try.func21, Try.ntmps21
      go_wp2_with (at_builtin; refine wpList_append_own _ rfl _ _ 24 rfl base 29 i0 (.pointer none) 1 8 Try.underlying24 hi hz0 hz1 hz2 rfl (by decide) _ _ _ rfl hown ⟨vb, 0, none⟩ 1 1 [p] rfl rfl hnews ?c2 ?c3 ?c4 hbase ?_)
      case c2 => intro u hu; simp at hu; subst hu; exact hp
      case c3 => unfold maxLen; omega
      case c4 => omega
      intro v' w1 hown' hgrow _
      go_wp2
      go_ret
      exact ⟨_, rfl, hown', hgrow⟩

theorem splice_grow (R xs : List Value) (p : Value) (i n : Nat) (hi : i < n) (hR : n + 1 ≤ R.length) (hx : xs.length = n) (hh : R.take i = xs.take i) :
    ((R.take i ++ [p] ++ R.drop (i + [p].length)).take (i + 1) ++ xs.drop i ++ (R.take i ++ [p] ++ R.drop (i + [p].length)).drop (i + 1 + (xs.drop i).length)).take (n + 1) = xs.take i ++ p :: xs.drop i := by
  have h1 : (R.take i ++ [p]).length = i + 1 := by simp; omega
  have h2 : (R.take i ++ [p] ++ R.drop (i + [p].length)).take (i + 1) = R.take i ++ [p] := by
    rw [← h1]; exact List.take_left
  rw [h2, List.take_append_of_le_length (by simp; omega), List.take_of_length_le (by simp; omega), hh]
  simp

set_option maxHeartbeats 1000000 in
set_option maxRecDepth 100000 in
theorem ins_grow (b n i vb : Nat) (cur : Array Value) (xs : List Value) (p : Value) (w : World) (hi : i < n) (hn : n ≤ 1000000)
    (hg : w.heap[b]? = some (.cells cur 29 (0, 0))) (hcur : cur.size = n) (hxs : cur.toList.take n = xs) (hv : w.heap[vb]? = some (.cells #[p] 29 (0, 0))) (hp : p.oneCell' = true) (h1 : ∀ v ∈ xs, v.oneCell' = true) :
    Calls Try.prog 21 #[.slice (some ⟨b, 0, none⟩) n n, .int .i64 (i : Int), .slice (some ⟨vb, 0, none⟩) 1 1] w fun e w' =>
      ∃ G, e = .returned (.slice (some ⟨w.heap.size, 0, none⟩) (n + 1) G) ∧ n + 1 ≤ G ∧ G ≤ maxLen ∧ ∃ cur', w'.heap[w.heap.size]? = some (.cells cur' 29 (0, 0)) ∧ cur'.size = G ∧ cur'.toList.take (n + 1) = xs.take i ++ p :: xs.drop i ∧ w.grownBy w' (some b) := by
  have hxl : xs.length = n := by rw [← hxs]; simp; omega
  obtain ⟨i0, hi0, hz0, hzs, hzb⟩ := info_parts Try.info29
  have hz2 : ¬ ((i : Int) = (n : Int)) := by omega
  have hz3 : (n : Int) < (n : Int) + 1 := by omega
  have hbw : b < w.heap.size := (Array.getElem?_eq_some_iff.1 hg).1
  have hvw : vb < w.heap.size := (Array.getElem?_eq_some_iff.1 hv).1
  have hkk : (n : Int) + 1 - (i : Int) = ((n + 1 - i : Nat) : Int) := by omega
  have hik : i + (n + 1 - i) = n + 1 := by omega
  have hold : (Builtin.firstCells i0.size i (.slice (some ⟨b, 0, none⟩) i n)).run Try.prog w.drew = .ok (xs.take i).toArray w.drew := by
    rw [hzs]
    exact run_firstCells_some w.drew 1 i ⟨b, 0, none⟩ i n (xs.take i) (by rw [List.length_take]; omega) (fun j v hj => by
      rw [Addr.add_lit]
      rw [List.getElem?_take] at hj
      split at hj
      · rw [← hxs, List.getElem?_take] at hj
        split at hj
        · show w.cell? _ = _
          simpa [World.cell?, hg] using hj
        · cases hj
      · cases hj)
  have hrz : ∀ ty, (Builtin.append_ #[24, 3] ty #[.slice (some ⟨b, 0, none⟩) i n, .int .i64 ((n : Int) + 1 - (i : Int))]).run Try.prog w =
      .ok (.slice (some ⟨w.heap.size, 0, none⟩) (n + 1) (grownCap w (n + 1) n 29)) (w.drew.alloc (.cells ((xs.take i).toArray ++ Builtin.zeroCells (Value.pointer none).cells (n + 1 - i) ++ Builtin.zeroCells (Value.pointer none).cells (grownCap w (n + 1) n 29 - (n + 1))) 29)) := fun ty => by
    have h := Lib.run_append_grow_zeros w 24 3 ty 29 i0 _ .i64 .i64 Try.underlying24 Try.underlying3 hi0 hz0 (some ⟨b, 0, none⟩) i n (xs.take i) hold (n + 1 - i) (by omega) (by omega) (by omega) (by omega) (by rw [hzb]; omega) (by rw [hzb, hik]; exact growslice_fits (by omega) (by omega))
    rw [hik] at h
    rw [hkk]
    exact h
  have hGn := grownCap_ge w (n + 1) n 29
  have hG63 := grownCap_le_maxLen w (n + 1) n 29 (by unfold maxLen; omega)
  obtain ⟨G, hG⟩ : ∃ G, G = grownCap w (n + 1) n 29 := ⟨_, rfl⟩
  rw [← hG] at hrz hGn hG63
  obtain ⟨R, hR⟩ : ∃ R : List Value, R = xs.take i ++ (Builtin.zeroCells (Value.pointer none).cells (n + 1 - i)).toList ++ (Builtin.zeroCells (Value.pointer none).cells (G - (n + 1))).toList := ⟨_, rfl⟩
  have hRl : R.length = G := by
    rw [hR]
    simp [Builtin.zeroCells, Value.cells]
    omega
  have hRi : R.take i = xs.take i := by
    rw [hR, List.append_assoc]
    rw [List.take_append_of_le_length (by simp; omega), List.take_of_length_le (by simp; omega)]
  have hRa : (xs.take i).toArray ++ Builtin.zeroCells (Value.pointer none).cells (n + 1 - i) ++ Builtin.zeroCells (Value.pointer none).cells (G - (n + 1)) = R.toArray := by
    rw [hR]; simp
  rw [hRa] at hrz
  clear hR hRa hG hold
  have hdl : (xs.drop i).length = n - i := by rw [List.length_drop, hxl]
  obtain ⟨L2, hL2⟩ : ∃ L2, L2 = R.take i ++ [p] ++ R.drop (i + [p].length) := ⟨_, rfl⟩
  have hL2l : L2.length = G := by rw [hL2, splice_len _ _ _ (by simp; omega)]; exact hRl
  obtain ⟨L3, hL3⟩ : ∃ L3, L3 = L2.take (i + 1) ++ xs.drop i ++ L2.drop (i + 1 + (xs.drop i).length) := ⟨_, rfl⟩
  have hL3l : L3.length = G := by rw [hL3, splice_len _ _ _ (by rw [hdl]; omega)]; exact hL2l
  have hW1g : (w.drew.alloc (.cells R.toArray 29)).heap[w.heap.size]? = some (.cells R.toArray 29 (0, 0)) := heap_alloc_new w.drew _
  have hW1b : (w.drew.alloc (.cells R.toArray 29)).heap[b]? = some (.cells cur 29 (0, 0)) := (Below.heap_alloc w.drew _ b hbw).trans hg
  have hW1v : (w.drew.alloc (.cells R.toArray 29)).heap[vb]? = some (.cells #[p] 29 (0, 0)) := (Below.heap_alloc w.drew _ vb hvw).trans hv
  have hcp1 : ∀ (W : World), W.heap = (w.drew.alloc (.cells R.toArray 29)).heap → ∀ ty dc, (Builtin.copy_ #[24, 24] ty #[.slice (some ⟨w.heap.size, i, none⟩) (n + 1 - i) dc, .slice (some ⟨vb, 0, none⟩) 1 1]).run Try.prog W = .ok (goInt 1) (W.setRow w.heap.size L2.toArray) := fun W hW ty dc => by
    rw [hL2]
    have := run_copy_row Try.prog W 24 24 ty 29 w.heap.size i (n + 1 - i) dc ⟨vb, 0, none⟩ 1 1 R.toArray 29 [p] Try.underlying24 Try.size29 (by rw [hW]; exact hW1g) (by simp only [Nat.min_def]; split <;> simp <;> omega)
      (fun j v hj => by
        rw [Addr.add_lit]
        match j, hj with
        | 0, hj => simp at hj; subst hj; simp only [World.cell?, hW, hW1v]; rfl) (by simp; omega) (fun v hv => by simp at hv; subst hv; exact hp)
    simpa using this
  have hcp2 : ∀ (W : World), W.heap = ((w.drew.alloc (.cells R.toArray 29)).setRow w.heap.size L2.toArray).heap → ∀ ty dc sc, (Builtin.copy_ #[24, 24] ty #[.slice (some ⟨w.heap.size, i + 1, none⟩) (n - i) dc, .slice (some ⟨b, i, none⟩) (n - i) sc]).run Try.prog W = .ok (goInt (xs.drop i).length) (W.setRow w.heap.size L3.toArray) := fun W hW ty dc sc => by
    rw [hL3]
    have := run_copy_row Try.prog W 24 24 ty 29 w.heap.size (i + 1) (n - i) dc ⟨b, i, none⟩ (n - i) sc L2.toArray 29 (xs.drop i) Try.underlying24 Try.size29 (by rw [hW]; exact setRow_heap _ _ _ _ _ _ hW1g) (by rw [hdl]; simp)
      (fun j v hj => by
        rw [Addr.add_lit]
        rw [List.getElem?_drop, ← hxs, List.getElem?_take] at hj
        split at hj
        · have : W.heap[b]? = some (.cells cur 29 (0, 0)) := by rw [hW, setRow_other _ _ _ _ (by omega)]; exact hW1b
          simpa [World.cell?, this] using hj
        · cases hj) (by rw [hdl]; simp; omega) (fun v hv => h1 v (List.mem_of_mem_drop hv))
    simpa using this
  have hG' : G ≤ 9223372036854775807 := by unfold maxLen at hG63; omega
  have hGi : ¬ (G = i) := by omega
  have hGim : ¬ (G = i + 1) := by omega
  have hci : ¬ (n = i) := by omega
  have hw1 : IntKind.i64.wrap ((i : Int) + 1) = (i : Int) + 1 := by rw [IntKind.wrap_i64]; omega
  have hb1 : (0 : Int) ≤ (i : Int) + 1 := by omega
  have htn : ((i : Int) + 1).toNat = i + 1 := by omega
  have hin : i ≤ n := by omega
  have hb3 : (i : Int) ≤ (n : Int) := by omega
  have HL2 : Hid (L2 = _) := hL2
  have HL3 : Hid (L3 = _) := hL3
  replace hcp1 := hcp1 (w.alloc (.cells R.toArray 29)).drew rfl
  replace hcp2 := hcp2 ((w.alloc (.cells R.toArray 29)).drew.setRow w.heap.size L2.toArray).drew rfl
  have HRi : Hid (R.take i = _) := hRi
  clear hL2 hL3 hRi hkk hik
  go_enter Try.func21, Try.ntmps21
  go_wp2_with (at_builtin; refine Lib.wpList_append_run _ rfl _ _ _ _ rfl _ _ rfl rfl _ _ (hrz _) ?_)
  go_region_law (refine step_copy_runI rfl _ _ 24 24 rfl _ _ (by simp [Act.eval, Act.put]) (by simp [Act.eval, Act.put]) (hcp2 _ _ _) ?_)
  go_wp2
  go_ret
  refine ⟨G, rfl, hGn, hG63, L3.toArray, ?_, by simpa using hL3l, ?_, ?_⟩
  · exact setRow_heap _ _ L2.toArray _ 29 _ (setRow_heap _ _ R.toArray _ 29 _ hW1g)
  · show L3.take (n + 1) = _
    rw [HL3.out, HL2.out]
    exact splice_grow _ _ _ _ _ hi (by omega) hxl HRi.out
  · exact ⟨rfl, rfl, rfl, by simp, fun k hk _ => (setRow_other _ _ _ _ (by omega)).trans ((setRow_other _ _ _ _ (by omega)).trans (Below.heap_alloc w.drew _ k hk))⟩

/-- slices.Insert(s, i, x): s a row of the call's own. -/
theorem ins_any (base : Nat) (v : Value) (n i vb : Nat) (xs : List Value) (p : Value) (w : World) (hown : w.ownsRow base 29 1 v n xs) (hi : i ≤ n) (hn : n ≤ 1000000) (hbase : base ≤ w.heap.size)
    (hv : w.heap[vb]? = some (.cells #[p] 29 (0, 0))) (hvb : v.ownBlock ≠ some vb) (hp : p.oneCell' = true) (h1 : ∀ v ∈ xs, v.oneCell' = true) :
    Calls Try.prog 21 #[v, .int .i64 (i : Int), .slice (some ⟨vb, 0, none⟩) 1 1] w fun e w' =>
      ∃ v', e = .returned v' ∧ w'.ownsRow base 29 1 v' (n + 1) (xs.take i ++ p :: xs.drop i) ∧ w.grownBy w' v.ownBlock := by
  have hxl : xs.length = n := by simpa using hown.1
  have hlen : (xs.take i ++ p :: xs.drop i).length = (n + 1) * 1 := by simp; omega
  by_cases hin : i = n
  · subst hin
    have e1 : xs.take i ++ p :: xs.drop i = xs ++ [p] := by
      rw [List.take_of_length_le (by omega), List.drop_eq_nil_of_le (by omega)]
    rw [e1]
    exact ins_end base v i vb xs p w hown hn hbase hv hp
  · rcases hown.2 with ⟨rfl, rfl⟩ | ⟨g, cap, cur, rfl, hb, hg, hle, hm, hs, ht⟩
    · omega
    · have hs' : cur.size = cap := by simpa using hs
      have ht' : cur.toList.take n = xs := by simpa using ht
      by_cases hr : n + 1 ≤ cap
      · refine (ins_shift g n cap i vb cur xs p w (by omega) hr (by unfold maxLen at hm; omega) (fun e => hvb (by rw [e]; rfl)) hg hs' ht' hv hp h1).mono ?_
        rintro e w' ⟨rfl, cur', h2, h3, h4, h5⟩
        exact ⟨_, rfl, ⟨hlen, .inr ⟨g, cap, cur', rfl, hb, h2, hr, hm, by simpa using h3, by simpa using h4⟩⟩, h5⟩
      · have hcn : cap = n := by omega
        subst hcn
        refine (ins_grow g cap i vb cur xs p w (by omega) hn hg hs' ht' hv hp h1).mono ?_
        rintro e w' ⟨G, rfl, hG1, hG2, cur', h2, h3, h4, h5⟩
        exact ⟨_, rfl, ⟨hlen, .inr ⟨w.heap.size, G, cur', rfl, hbase, h2, hG1, hG2, by simpa using h3, by simpa using h4⟩⟩, h5⟩
end Go.Proofs.Qxb6612366a
