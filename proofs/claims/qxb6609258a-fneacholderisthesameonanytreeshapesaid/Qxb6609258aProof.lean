/-
  'Rows.FnEachOlderIsTheSameOnAnyTreeShapeSaid', proved: the guide's frame round the law's walk.
-/
import Derived.Test.Qxb6609258aWi
import Derived.ProofKit
import Derived.OpenShut
import Derived.ChangeOld
import Derived.Below
import Derived.Deep.SlicePairs
namespace Go.Proofs.Qxb6609258a.fnEachOlder
open Go.ChangeShapes Go.WideShapes Go.ChangeAt Go.RowKit

theorem own : ownKnob Try.prog.godebug = none := by kernel_rfl
theorem laidOut : laidOutB Try.prog = true := by kernel_rfl

theorem cell_lt {w : World} {b o : Nat} {v : Value} (h : w.cell? ⟨b, o, none⟩ = some v) : b < w.heap.size := by
  rcases Nat.lt_or_ge b w.heap.size with h' | h'
  · exact h'
  · simp [World.cell?, Array.getElem?_eq_none h'] at h

set_option maxRecDepth 100000 in
theorem lifted (os : Os) (started : os.Started) (H : Type) (enc : TypeId × Value → H) :
    ReturnsInHanded {} Try.checked os 5 .any (Rows.fnEachOlderIsTheSameOnAnyTreeShapeSpec.pre6 enc Try.prog Try.f5 Rows.fnEachOlderIsTheSameOnAnyTreeShapeRow.domain false) (Rows.fnEachOlderIsTheSameOnAnyTreeShapeSpec.post enc Try.prog Try.f5 false true false false) := by
  refine returnsInHanded_of_change (C := Try.checked) own started (by kernel_rfl) Try.func5
    (ChangeSpec.witness6 (enc := enc) (C := Try.checked) false ⟨#[], #[.slice none 0 0, .int .u64 0, .int .u64 0], []⟩ 8 (by kernel_rfl) (by kernel_rfl) (by kernel_rfl) (by kernel_rfl)) ?_
  intro W base args ds gs before hval0 hW hcnd _
  have hval : ∀ (j : Nat) t v, Try.f5.params[j]? = some t → args[j]? = some v → Value.okWide Try.prog W .any base t v := hval0
  have hW' := hW
  obtain ⟨p, q, hA0, hV, rfl, hfz, hnd⟩ := hW
  have hA : DataW.TrodAll enc Try.prog W 0 (fun _ => true) true Try.f5.params.toList args.toList ds p := hA0
  rw [Try.params5] at hA hval
  obtain ⟨v0, vs0, d0, ds0, p0, q0, hargs, rfl, rfl, h0, r0⟩ := trodAll_cons hA
  obtain ⟨v1, vs1, d1, ds1, p1, q1, rfl, rfl, rfl, h1, r1⟩ := trodAll_cons r0
  obtain ⟨v2, vs2, d2, ds2, p2, q2, rfl, rfl, rfl, h2, r2⟩ := trodAll_cons r1
  obtain ⟨rfl, rfl, rfl⟩ := trodAll_nil r2
  obtain rfl : args = #[v0, v1, v2] := by cases args; simp_all
  obtain ⟨rfl, rfl⟩ := trodVars_none hV
  obtain ⟨a0, len0, cap0, rfl⟩ := okWide_slice Try.underlying22 (hval 0 22 v0 rfl rfl)
  have k0 := h0
  have lt0 : ∀ x ∈ p0, x.block < W.heap.size := by obtain ⟨m, hm⟩ := k0; exact DataW.trod_lt m _ _ _ hm
  obtain ⟨FL, HH, w0⟩ : ∃ FL HH, SpAt W a0 len0 FL HH := by
    obtain ⟨fuel, hf⟩ := h0
    rcases Deep.open_slice_pairs Try.underlying22 Try.underlying45 (by kernel_rfl) rfl rfl (by kernel_rfl) (by kernel_rfl) hf with ⟨hcs, _⟩ | ⟨a, len, cap, m, n, V0, V1, D0, D1, P0, P1, hcs, _, hl, hm, hmm, _, hcell⟩
    · simp [Value.cells] at hcs
      obtain ⟨rfl, rfl, rfl⟩ := hcs
      exact ⟨fun _ => 0, fun _ => 0, fun h => absurd h (by omega)⟩
    · simp [Value.cells] at hcs
      obtain ⟨rfl, rfl, rfl⟩ := hcs
      simp only [if_true] at hmm
      refine ⟨fun i => intOf (V0 i), fun i => intOf (V1 i), fun hpos => ?_⟩
      obtain ⟨b, off, spot⟩ := a
      have hspot : spot = none := by simpa [Addr.add] using World.cell?_spot (hcell 0 (by omega)).1
      subst hspot
      have hv : ∀ i, i < m → V0 i = .int .u64 (intOf (V0 i)) ∧ V1 i = .int .u64 (intOf (V1 i)) := by
        intro i hi
        obtain ⟨_, _, t0, t1⟩ := hcell i hi
        obtain ⟨x, e0, _, _⟩ := DataW.trod_int Try.underlying38 t0
        obtain ⟨y, e1, _, _⟩ := DataW.trod_int Try.underlying38 t1
        simp at e0 e1
        rw [e0, e1]
        exact ⟨rfl, rfl⟩
      refine ⟨b, off, rfl, ?_, fun i hi => ?_⟩
      · have := (hcell 0 (by omega)).1
        rw [add_plain] at this
        exact cell_lt this
      · have hc := hcell i (by omega)
        rw [add_plain, add_plain] at hc
        exact ⟨by rw [← (hv i (by omega)).1]; exact hc.1, by rw [← (hv i (by omega)).2]; exact hc.2.1⟩
  obtain ⟨a1, rfl, rfl, rfl, w1⟩ := open_int Try.underlying38 (hval 1 38 v1 rfl rfl) h1
  obtain ⟨a2, rfl, rfl, rfl, w2⟩ := open_int Try.underlying38 (hval 2 38 v2 rfl rfl) h2
  clear hA0 hval0
  refine (law_any a0 len0 cap0 FL HH a1 a2 W w0).mono fun e W' ⟨he, bel⟩ => ?_
  subst he
  exact ⟨_, rfl, _, _, _, [], _, [], hW', trodAll_mk1 (shut_bool Try.underlying4 _), (trodAll_cons_mk (Below.trod laidOut (by kernel_rfl) (of_decide_eq_true (by kernel_rfl)) k0 bel lt0) (trodAll_cons_mk (shut_int Try.underlying38 w1) (trodAll_cons_mk (shut_int Try.underlying38 w2) trodAll_mk0))), rfl, bel.frame _, fun h => by cases h⟩

theorem over : Rows.fnEachOlderIsTheSameOnAnyTreeShapeRow.holds Try.pinned (OpenSpec.ofChange Rows.fnEachOlderIsTheSameOnAnyTreeShapeSpec) :=
  OpenClaim.holds_of_wide 5 Try.f5 rfl rfl rfl rfl rfl rfl rfl ⟨rfl, rfl, rfl, rfl, rfl⟩ rfl rfl rfl rfl rfl (by kernel_rfl) Try.func5 (by kernel_rfl)
    (of_decide_eq_true (by kernel_rfl)) (by unfold Func.isWrapper; first | (rw [if_pos (by decide +kernel)]; kernel_rfl) | (rw [if_neg (by decide +kernel)]; exact ⟨rfl, rfl⟩))
    (fun os started H enc _ => lifted os started H enc)

/-- THE STATEMENT -/
theorem proved : Rows.FnEachOlderIsTheSameOnAnyTreeShapeSaid := over
end Go.Proofs.Qxb6609258a.fnEachOlder
