/-
  'Rows.FnSkipWhileDigitsJoinSaid', proved: the walk of the law (the callees by their contracts), and the guide's frame round it.
-/
import Derived.Test.Qxb6612721aRows
import Derived.WalkKit
import Derived.ProofKit
import Derived.OpenShut
import Derived.ShutString
import Derived.Test.Qxb6612721aWalk
namespace Go.Proofs.Qxb6612721a.fnSkipWhileDigitsJoin
open Go.ChangeShapes Go.WideShapes Go.ChangeAt Go.RowKit
open Go.ChangeMaps (open_string shut_string)
set_option linter.unusedVariables false      -- a walk need not use every 'w<i>' (that an integer argument fits its kind)

theorem own : ownKnob Try.prog.godebug = none := by kernel_rfl

/-! ### STEP 1: THE WALK: the Go text returns true. 'Grown w w'': the world has at most new blocks (Derived/RowKit3.lean). Part the cases AHEAD of 'go_enter' where a test parts the walk; take each callee by a contract of your own. -/
theorem walk (a0 : ByteArray) (a1 : ByteArray) (a2 : Int) (w0 : a0.size ≤ maxLen) (w1 : a1.size ≤ maxLen) (w2 : (Lit.int .i64 a2).wf = true) (w : World) :
    Calls Try.prog 4 #[.string a0, .string a1, .int .i64 a2] w fun e w' => e = .returned (.bool true) ∧ Grown w w' := by
  by_cases hsum : a0.size + a1.size ≤ 1048576
  · by_cases hneg : a2 < 0
    · go_enter Try.func4, Try.ntmps4
      go_wp2_with (go_at_call 9; refine (bytes_yes a0 a1 a2 _ hsum).mono ?_; rintro e w' ⟨rfl, rfl⟩)
      go_ret
      exact ⟨rfl, Grown.refl _⟩
    · obtain ⟨i, rfl⟩ := Int.eq_ofNat_of_zero_le (by omega : 0 ≤ a2)
      have bd := (bounds_i64 w2).2
      have hs : (a0 ++ a1).size ≤ maxLen := by unfold maxLen; simp; omega
      have hs1 : (a0 ++ a1).size = a0.size + a1.size := by simp
      have c1 := fun w => zzSkip_any (a0 ++ a1) i w hs
      have c2 := fun w => zzSkip_any a0 i w w0
      have c4 := fun w => runEnds_any (a0 ++ a1) i w hs
      have hj := skipB_join a0 a1 i
      have hle : skipB a0 i ≤ a0.size ∨ skipB a0 i = i := by
        by_cases h : i ≤ a0.size
        · exact .inl (skipB_le a0 i h)
        · exact .inr (skipB_end a0 i (by omega))
      obtain ⟨r, hr⟩ : ∃ r, skipB (a0 ++ a1) i = r := ⟨_, rfl⟩
      obtain ⟨ra, hra⟩ : ∃ ra, skipB a0 i = ra := ⟨_, rfl⟩
      rw [hr] at c1 c4
      rw [hra] at c2 hle
      rw [hr, hra] at hj
      clear hr hra hs hs1
      have C1 : Hid (∀ w, Calls Try.prog 10 #[.string (a0 ++ a1), .int .i64 (i : Int)] w fun e w' => e = .returned (.int .i64 (r : Int)) ∧ w' = w) := c1
      have C2 : Hid (∀ w, Calls Try.prog 10 #[.string a0, .int .i64 (i : Int)] w fun e w' => e = .returned (.int .i64 (ra : Int)) ∧ w' = w) := c2
      have C4 : Hid (∀ w, Calls Try.prog 11 #[.string (a0 ++ a1), .int .i64 (i : Int), .int .i64 (r : Int)] w fun e w' => e = .returned (.bool true) ∧ w' = w) := c4
      clear c1 c2 c4
      by_cases hge : a0.size ≤ ra
      · have c3 := fun w => zzSkip_any a1 (ra - a0.size) w w1
        have hle3 : skipB a1 (ra - a0.size) ≤ a1.size ∨ skipB a1 (ra - a0.size) = ra - a0.size := by
          by_cases h : ra - a0.size ≤ a1.size
          · exact .inl (skipB_le a1 _ h)
          · exact .inr (skipB_end a1 _ (by omega))
        rw [if_pos hge] at hj
        obtain ⟨rb, hrb⟩ : ∃ rb, skipB a1 (ra - a0.size) = rb := ⟨_, rfl⟩
        rw [hrb] at hj c3 hle3
        clear hrb
        have e3 : ((ra - a0.size : Nat) : Int) = (ra : Int) - (a0.size : Int) := by omega
        rw [e3] at c3
        have C3 : Hid (∀ w, Calls Try.prog 10 #[.string a1, .int .i64 ((ra : Int) - (a0.size : Int))] w fun e w' => e = .returned (.int .i64 (rb : Int)) ∧ w' = w) := c3
        clear c3 e3
        subst hj
        unfold maxLen at w0 w1
        go_enter Try.func4, Try.ntmps4
        go_wp2_with (go_at_call 9; refine (bytes_yes a0 a1 _ _ hsum).mono ?_; rintro e w' ⟨rfl, rfl⟩)
        refine (C1.out _).mono ?_
        rintro e w' ⟨rfl, rfl⟩
        go_wp2_with fail
        refine (C2.out _).mono ?_
        rintro e w' ⟨rfl, rfl⟩
        go_wp2_with fail
        refine (C3.out _).mono ?_
        rintro e w' ⟨rfl, rfl⟩
        go_wp2_with fail
        refine (C4.out _).mono ?_
        rintro e w' ⟨rfl, rfl⟩
        go_wp2_with fail
        go_ret
        exact ⟨rfl, Grown.refl _⟩
      · rw [if_neg hge] at hj
        subst hj
        unfold maxLen at w0 w1
        go_enter Try.func4, Try.ntmps4
        go_wp2_with (go_at_call 9; refine (bytes_yes a0 a1 _ _ hsum).mono ?_; rintro e w' ⟨rfl, rfl⟩)
        refine (C1.out _).mono ?_
        rintro e w' ⟨rfl, rfl⟩
        go_wp2_with fail
        refine (C2.out _).mono ?_
        rintro e w' ⟨rfl, rfl⟩
        go_wp2_with fail
        refine (C4.out _).mono ?_
        rintro e w' ⟨rfl, rfl⟩
        go_wp2_with fail
        go_ret
        exact ⟨rfl, Grown.refl _⟩
  · go_enter Try.func4, Try.ntmps4
    go_wp2_with (go_at_call 9; refine (bytes_no a0 a1 a2 _ w0 w1 hsum).mono ?_; rintro e w' ⟨rfl, rfl⟩)
    go_ret
    exact ⟨rfl, Grown.refl _⟩

/-! ### THE ROW's STEP: WRITTEN OUT: LEAVE IT -/
set_option maxRecDepth 100000 in
theorem lifted (os : Os) (started : os.Started) (H : Type) (enc : TypeId × Value → H) :
    ReturnsInHanded {} Try.checked os 4 .any (Rows.fnSkipWhileDigitsJoinSpec.pre6 enc Try.prog Try.f4 Rows.fnSkipWhileDigitsJoinRow.domain false) (Rows.fnSkipWhileDigitsJoinSpec.post enc Try.prog Try.f4 false true false false) := by
  refine returnsInHanded_of_change (C := Try.checked) own started (by kernel_rfl) Try.func4
    (ChangeSpec.witness6 (enc := enc) (C := Try.checked) false ⟨#[], #[.string ByteArray.empty, .string ByteArray.empty, .int .i64 0], []⟩ 8 (by kernel_rfl) (by kernel_rfl) (by kernel_rfl) (by kernel_rfl)) ?_
  intro W base args ds gs before hval0 hW hcnd _
  have hval : ∀ (j : Nat) t v, Try.f4.params[j]? = some t → args[j]? = some v → Value.okWide Try.prog W .any base t v := hval0
  have hW' := hW
  obtain ⟨p, q, hA0, hV, rfl, hfz, hnd⟩ := hW
  have hA : DataW.TrodAll enc Try.prog W 0 (fun _ => true) true Try.f4.params.toList args.toList ds p := hA0
  rw [Try.params4] at hA hval
  obtain ⟨v0, vs0, d0, ds0, p0, q0, hargs, rfl, rfl, h0, r0⟩ := trodAll_cons hA
  obtain ⟨v1, vs1, d1, ds1, p1, q1, rfl, rfl, rfl, h1, r1⟩ := trodAll_cons r0
  obtain ⟨v2, vs2, d2, ds2, p2, q2, rfl, rfl, rfl, h2, r2⟩ := trodAll_cons r1
  obtain ⟨rfl, rfl, rfl⟩ := trodAll_nil r2
  obtain rfl : args = #[v0, v1, v2] := by cases args; simp_all
  obtain ⟨rfl, rfl⟩ := trodVars_none hV
  obtain ⟨a0, rfl, rfl, rfl, w0⟩ := open_string Try.underlying9 (hval 0 9 v0 rfl rfl) h0
  obtain ⟨a1, rfl, rfl, rfl, w1⟩ := open_string Try.underlying9 (hval 1 9 v1 rfl rfl) h1
  obtain ⟨a2, rfl, rfl, rfl, w2⟩ := open_int Try.underlying3 (hval 2 3 v2 rfl rfl) h2
  clear hA0 hval0
  simp only [List.append_nil] at hW'
  refine (walk a0 a1 a2 w0 w1 w2 W).mono fun e W' ⟨he, hg⟩ => ?_
  subst he
  exact ⟨_, rfl, post_of_same (pa := []) (pv := []) hW' (fun _ _ _ => (trodAll_cons_mk (shut_bool Try.underlying4 _) trodAll_mk0)) (fun sp _ => (trodAll_cons_mk (shut_string Try.underlying9 w0) (trodAll_cons_mk (shut_string Try.underlying9 w1) (trodAll_cons_mk (shut_int Try.underlying3 w2) trodAll_mk0)))) (fun _ _ => rfl) rfl
    (hg.frame _) hg.2.1 (ok_one (by kernel_rfl) rfl (okWide_bool_mk Try.underlying4 _))⟩

theorem over : Rows.fnSkipWhileDigitsJoinRow.holds Try.pinned (OpenSpec.ofChange Rows.fnSkipWhileDigitsJoinSpec) :=
  OpenClaim.holds_of_wide 4 Try.f4 rfl rfl rfl rfl rfl rfl rfl ⟨rfl, rfl, rfl, rfl, rfl⟩ rfl rfl rfl rfl rfl (by kernel_rfl) Try.func4 (by kernel_rfl)
    (of_decide_eq_true (by kernel_rfl)) (by unfold Func.isWrapper; first | (rw [if_pos (by decide +kernel)]; kernel_rfl) | (rw [if_neg (by decide +kernel)]; exact ⟨rfl, rfl⟩))
    (fun os started H enc _ => lifted os started H enc)

/-- ████ THE STATEMENT ████ -/
theorem proved : Rows.FnSkipWhileDigitsJoinSaid :=
  over
end Go.Proofs.Qxb6612721a.fnSkipWhileDigitsJoin
