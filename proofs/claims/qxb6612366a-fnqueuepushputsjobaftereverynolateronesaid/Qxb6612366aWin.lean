/-
  WALKS (in): slices.Insert at []*Job with one new element: at the end; in place; into a new row.
-/
import Derived.Test.Qxb6612366aRows
import Derived.WalkKit
import Derived.WalkSpells
import Derived.Shelf.Spec.SlicesInsert
import Derived.Lib.AppendZerosOnto
import Derived.Deep.RegionLaw
import Derived.Laws.CopyRow
namespace Go.Proofs.Qxb6612366a
open Go.RowKit

theorem Try.info29 : (Try.prog.info? 29).map (fun i => (i.zero, i.size, i.bytes)) = some (some (.pointer none), 1, 8) := by kernel_rfl
theorem Try.size29 : (Try.prog.info? 29).map (·.size) = some 1 := by kernel_rfl

/-- The row, its tail from i on moved up by one cell. -/
theorem splice_len (L cs : List Value) (o : Nat) (h : o + cs.length ≤ L.length) : (L.take o ++ cs ++ L.drop (o + cs.length)).length = L.length := by
  simp; omega

theorem splice_ins (L xs : List Value) (p : Value) (i n : Nat) (hi : i < n) (hn : n + 1 ≤ L.length) (hx : L.take n = xs) :
    (((L.take (i + 1) ++ xs.drop i ++ L.drop (i + 1 + (xs.drop i).length)).take i ++ [p] ++ (L.take (i + 1) ++ xs.drop i ++ L.drop (i + 1 + (xs.drop i).length)).drop (i + [p].length))).take (n + 1) = xs.take i ++ p :: xs.drop i := by
  subst hx
  have hl : ((L.take n).drop i).length = n - i := by simp; omega
  rw [hl]
  apply List.ext_getElem?
  intro j
  simp only [List.getElem?_take, List.getElem?_append, List.length_append, List.length_take, List.length_drop, List.getElem?_drop, List.length_cons, List.length_nil, List.getElem?_cons]
  by_cases h1 : j < i
  · repeat (first | rw [if_pos (by omega)] | rw [if_neg (by omega)])
  · by_cases h2 : j = i
    · repeat (first | rw [if_pos (by omega)] | rw [if_neg (by omega)])
    · by_cases h3 : j < n + 1
      · repeat (first | rw [if_pos (by omega)] | rw [if_neg (by omega)])
        congr 1
        omega
      · repeat (first | rw [if_pos (by omega)] | rw [if_neg (by omega)])

set_option maxHeartbeats 1000000 in
set_option maxRecDepth 100000 in
theorem ins_shift (b n c i vb : Nat) (cur : Array Value) (xs : List Value) (p : Value) (w : World) (hi : i < n) (hroom : n + 1 ≤ c) (hc : c ≤ 9223372036854775807) (hvb : vb ≠ b)
    (hg : w.heap[b]? = some (.cells cur 29 (0, 0))) (hcur : cur.size = c) (hxs : cur.toList.take n = xs) (hv : w.heap[vb]? = some (.cells #[p] 29 (0, 0))) (hp : p.oneCell' = true) (h1 : ∀ v ∈ xs, v.oneCell' = true) :
    Calls Try.prog 21 #[.slice (some ⟨b, 0, none⟩) n c, .int .i64 (i : Int), .slice (some ⟨vb, 0, none⟩) 1 1] w fun e w' =>
      e = .returned (.slice (some ⟨b, 0, none⟩) (n + 1) c) ∧ ∃ cur', w'.heap[b]? = some (.cells cur' 29 (0, 0)) ∧ cur'.size = c ∧ cur'.toList.take (n + 1) = xs.take i ++ p :: xs.drop i ∧ w.grownBy w' (some b) := by
  have hxl : xs.length = n := by rw [← hxs]; simp; omega
  have hz2 : ¬ ((i : Int) = (n : Int)) := by omega
  have hov : ∀ lb cb, (callFunc 24 #[.slice (some ⟨vb, 0, none⟩) 1 1, .slice (some ⟨b, i + 1, none⟩) lb cb]).run Try.prog w = .ok (.value (.bool false)) w := fun lb cb => by
    rw [run_callFunc_extern Try.func24 (by kernel_rfl) (by kernel_rfl) (by kernel_rfl) (e := Extern.SlicesOverlaps.overlaps #[24, 24] #[4]) (by kernel_rfl),
      Lib.run_overlaps_apart w 24 4 29 Try.underlying24 1 (fun w => by kernel_rfl) ⟨vb, 0, none⟩ ⟨b, i + 1, none⟩ 1 1 lb cb hvb 29 29 1 c (by simp [World.shape?, hv]) (by simp [World.shape?, hg, hcur]) (by omega) (by simp [World.frozen?, hv]) (by simp [World.frozen?, hv])]
    rfl
  have hdl : (xs.drop i).length = n - i := by rw [List.length_drop, hxl]
  have hb2 : ¬ (c = i + 1) := by omega
  have hb3 : (i : Int) ≤ (n : Int) + 1 := by omega
  have hb4 : ¬ (c = i) := by omega
  have hin : i ≤ n := by omega
  have hw1 : IntKind.i64.wrap ((i : Int) + 1) = (i : Int) + 1 := by rw [IntKind.wrap_i64]; omega
  have hb1 : (0 : Int) ≤ (i : Int) + 1 := by omega
  have htn : ((i : Int) + 1).toNat = i + 1 := by omega
  obtain ⟨L1, hL1⟩ : ∃ L1, L1 = cur.toList.take (i + 1) ++ xs.drop i ++ cur.toList.drop (i + 1 + (xs.drop i).length) := ⟨_, rfl⟩
  have hL1l : L1.length = c := by rw [hL1, splice_len _ _ _ (by rw [hdl]; simp; omega)]; simpa using hcur
  obtain ⟨L2, hL2⟩ : ∃ L2, L2 = L1.take i ++ [p] ++ L1.drop (i + [p].length) := ⟨_, rfl⟩
  have hL2l : L2.length = c := by rw [hL2, splice_len _ _ _ (by simp; omega)]; exact hL1l
  have hcell : ∀ j v, (xs.drop i)[j]? = some v → w.cell? ((⟨b, i, none⟩ : Addr).add j) = some v := fun j v hj => by
    rw [Addr.add_lit]
    rw [List.getElem?_drop, ← hxs, List.getElem?_take] at hj
    split at hj
    · simpa [World.cell?, hg] using hj
    · cases hj
  have hcp1 : ∀ ty dc sc, (Builtin.copy_ #[24, 24] ty #[.slice (some ⟨b, i + 1, none⟩) (n - i) dc, .slice (some ⟨b, i, none⟩) (n + 1 - i) sc]).run Try.prog w.drew = .ok (goInt (xs.drop i).length) (w.drew.setRow b L1.toArray) := fun ty dc sc => by
    rw [hL1]
    exact run_copy_row Try.prog w.drew 24 24 ty 29 b (i + 1) (n - i) dc ⟨b, i, none⟩ (n + 1 - i) sc cur 29 (xs.drop i) Try.underlying24 Try.size29 hg (by rw [hdl]; simp only [Nat.min_def]; split <;> omega) hcell (by rw [hdl]; omega) (fun v hv => h1 v (List.mem_of_mem_drop hv))
  have hcp2 : ∀ ty dc, (Builtin.copy_ #[24, 24] ty #[.slice (some ⟨b, i, none⟩) (n + 1 - i) dc, .slice (some ⟨vb, 0, none⟩) 1 1]).run Try.prog (w.drew.setRow b L1.toArray) = .ok (goInt 1) ((w.drew.setRow b L1.toArray).setRow b L2.toArray) := fun ty dc => by
    rw [hL2]
    have := run_copy_row Try.prog (w.drew.setRow b L1.toArray) 24 24 ty 29 b i (n + 1 - i) dc ⟨vb, 0, none⟩ 1 1 L1.toArray 29 [p] Try.underlying24 Try.size29 (setRow_heap w.drew b cur _ 29 _ hg) (by simp only [Nat.min_def]; split <;> simp <;> omega)
      (fun j v hj => by
        rw [Addr.add_lit, cell_setRow_other _ _ _ _ hvb]
        match j, hj with
        | 0, hj => simp at hj; subst hj; show w.cell? _ = _; simp [World.cell?, hv]) (by simp; omega) (fun v hv => by simp at hv; subst hv; exact hp)
    simpa using this
  have HL1 : Hid (L1 = _) := hL1
  have HL2 : Hid (L2 = _) := hL2
  clear hL1 hL2
  go_enter Try.func21, Try.ntmps21
  go_wp2_with (simp only [hov])
  go_region_law (refine step_copy_runI rfl _ _ 24 24 rfl _ _ (by simp [Act.eval, Act.put]) (by simp [Act.eval, Act.put]) (hcp1 _ _ _) ?_)
  go_wp2_with (at_builtin; refine wpList_copy_runI _ rfl _ _ 24 24 rfl _ _ rfl rfl (hcp2 _ _) ?_)
  go_ret
  refine ⟨rfl, L2.toArray, ?_, by simpa using hL2l, ?_, ?_⟩
  · exact setRow_heap _ b L1.toArray _ 29 _ (setRow_heap w.drew b cur _ 29 _ hg)
  · show L2.take (n + 1) = _
    rw [HL2.out, HL1.out]
    exact splice_ins _ _ _ _ _ hi (by simp; omega) hxs
  · exact ⟨rfl, rfl, rfl, by simp, fun k _ hk => (setRow_other _ _ _ _ (by simpa using hk)).trans (setRow_other _ _ _ _ (by simpa using hk))⟩
end Go.Proofs.Qxb6612366a
