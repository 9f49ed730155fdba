/-
  WALKS (q): push, walked.
-/
import Derived.Test.Qxb6612366aWp
import Derived.Test.Qxb6612366aOrd
namespace Go.Proofs.Qxb6612366a
open Go.RowKit

set_option maxHeartbeats 4000000 in
set_option maxRecDepth 100000 in
theorem push_C (bq base h n J g cap : Nat) (st : ByteArray) (L : List Nat) (T : Nat → Int) (w : World) (P : Hid (PushAt w bq base st (.slice (some ⟨g, 0, none⟩) n cap) h n L T J)) (hA : Hid (Aged h n L T)) (hn : n ≤ 1000000) (hh : h ≤ n) (hc : ¬ cap = h) (hnc : n ≤ cap) (hcap : cap ≤ 9223372036854775807) :
    Calls Try.prog 16 #[.pointer (some ⟨bq, 0, none⟩), .pointer (some ⟨J, 0, none⟩)] w fun e w' => e = .returned (.tuple #[]) ∧ ∃ v' r, Where h n L T J r ∧ Pushed w w' bq base st (.slice (some ⟨g, 0, none⟩) n cap) v' h n L J (h + r) := by
  obtain ⟨_, q1, q2, _⟩ := P.out.q.cells
  have h0 : (0 : Int) ≤ (h : Int) := by omega
  have h1 : (h : Int) ≤ (n : Int) := by omega
  go_enter Try.func16, Try.ntmps16
  go_wp2_with fail
  refine wp_region_noPanic (wp_region_x (x := 26) (S := fun w' => w'.cell? ⟨bq, 1, none⟩ = some (.slice (some ⟨g, 0, none⟩) n cap) ∧ w'.cell? ⟨bq, 2, none⟩ = some (.int .i64 (h : Int))) (by kernel_rfl) ?_)
  have hS : w.drew.cell? ⟨bq, 1, none⟩ = some (.slice (some ⟨g, 0, none⟩) n cap) ∧ w.drew.cell? ⟨bq, 2, none⟩ = some (.int .i64 (h : Int)) := ⟨q1, q2⟩
  refine wpAnyX_take (i := 0) (v := .pointer (some ⟨bq, 0, none⟩)) rfl (by kernel_rfl) (by kernel_rfl) (by kernel_rfl) (by kernel_rfl) (fun _ _ _ h => h) (Or.inl ⟨by rfl, fun w ⟨s1, s2⟩ => ?_⟩) hS ?_
  · go_simp
  simp only [Act.put]
  refine wpAnyX_take (i := 1) (v := .pointer (some ⟨bq, 0, none⟩)) rfl (by kernel_rfl) (by kernel_rfl) (by kernel_rfl) (by kernel_rfl) (fun _ _ _ h => h) (Or.inl ⟨by rfl, fun w ⟨s1, s2⟩ => ?_⟩) hS ?_
  · go_simp
  simp only [Act.put]
  refine wpAnyX_take (i := 2) (v := .pointer (some ⟨bq, 0, none⟩)) rfl (by kernel_rfl) (by kernel_rfl) (by kernel_rfl) (by kernel_rfl) (fun _ _ _ h => h) (Or.inl ⟨by rfl, fun w ⟨s1, s2⟩ => ?_⟩) hS ?_
  · go_simp
  simp only [Act.put]
  refine wpAnyX_take (i := 3) (v := .pointer (some ⟨bq, 1, none⟩)) rfl (by kernel_rfl) (by kernel_rfl) (by kernel_rfl) (by kernel_rfl) (fun _ _ _ h => h) (Or.inl ⟨by rfl, fun w ⟨s1, s2⟩ => ?_⟩) hS ?_
  · go_simp
  simp only [Act.put]
  refine wpAnyX_take (i := 4) (v := .slice (some ⟨g, 0, none⟩) n cap) rfl (by kernel_rfl) (by kernel_rfl) (by kernel_rfl) (by kernel_rfl) (fun _ _ _ h => h) (Or.inl ⟨by rfl, fun w ⟨s1, s2⟩ => ?_⟩) hS ?_
  · go_simp
  simp only [Act.put]
  refine wpAnyX_take (i := 5) (v := .pointer (some ⟨bq, 0, none⟩)) rfl (by kernel_rfl) (by kernel_rfl) (by kernel_rfl) (by kernel_rfl) (fun _ _ _ h => h) (Or.inl ⟨by rfl, fun w ⟨s1, s2⟩ => ?_⟩) hS ?_
  · go_simp
  simp only [Act.put]
  refine wpAnyX_take (i := 6) (v := .pointer (some ⟨bq, 0, none⟩)) rfl (by kernel_rfl) (by kernel_rfl) (by kernel_rfl) (by kernel_rfl) (fun _ _ _ h => h) (Or.inl ⟨by rfl, fun w ⟨s1, s2⟩ => ?_⟩) hS ?_
  · go_simp
  simp only [Act.put]
  refine wpAnyX_take (i := 7) (v := .pointer (some ⟨bq, 2, none⟩)) rfl (by kernel_rfl) (by kernel_rfl) (by kernel_rfl) (by kernel_rfl) (fun _ _ _ h => h) (Or.inl ⟨by rfl, fun w ⟨s1, s2⟩ => ?_⟩) hS ?_
  · go_simp
  simp only [Act.put]
  refine wpAnyX_take (i := 8) (v := .int .i64 (h : Int)) rfl (by kernel_rfl) (by kernel_rfl) (by kernel_rfl) (by kernel_rfl) (fun _ _ _ h => h) (Or.inl ⟨by rfl, fun w ⟨s1, s2⟩ => ?_⟩) hS ?_
  · go_simp
  simp only [Act.put]
  refine wpAnyX_take (i := 9) (v := .pointer (some ⟨bq, 0, none⟩)) rfl (by kernel_rfl) (by kernel_rfl) (by kernel_rfl) (by kernel_rfl) (fun _ _ _ h => h) (Or.inl ⟨by rfl, fun w ⟨s1, s2⟩ => ?_⟩) hS ?_
  · go_simp
  simp only [Act.put]
  refine wpAnyX_take (i := 10) (v := .pointer (some ⟨bq, 0, none⟩)) rfl (by kernel_rfl) (by kernel_rfl) (by kernel_rfl) (by kernel_rfl) (fun _ _ _ h => h) (Or.inl ⟨by rfl, fun w ⟨s1, s2⟩ => ?_⟩) hS ?_
  · go_simp
  simp only [Act.put]
  refine wpAnyX_take (i := 11) (v := .pointer (some ⟨bq, 1, none⟩)) rfl (by kernel_rfl) (by kernel_rfl) (by kernel_rfl) (by kernel_rfl) (fun _ _ _ h => h) (Or.inl ⟨by rfl, fun w ⟨s1, s2⟩ => ?_⟩) hS ?_
  · go_simp
  simp only [Act.put]
  refine wpAnyX_take (i := 12) (v := .slice (some ⟨g, 0, none⟩) n cap) rfl (by kernel_rfl) (by kernel_rfl) (by kernel_rfl) (by kernel_rfl) (fun _ _ _ h => h) (Or.inl ⟨by rfl, fun w ⟨s1, s2⟩ => ?_⟩) hS ?_
  · go_simp
  simp only [Act.put]
  refine wpAnyX_take (i := 13) (v := .pointer (some ⟨bq, 0, none⟩)) rfl (by kernel_rfl) (by kernel_rfl) (by kernel_rfl) (by kernel_rfl) (fun _ _ _ h => h) (Or.inl ⟨by rfl, fun w ⟨s1, s2⟩ => ?_⟩) hS ?_
  · go_simp
  simp only [Act.put]
  refine wpAnyX_take (i := 14) (v := .pointer (some ⟨bq, 0, none⟩)) rfl (by kernel_rfl) (by kernel_rfl) (by kernel_rfl) (by kernel_rfl) (fun _ _ _ h => h) (Or.inl ⟨by rfl, fun w ⟨s1, s2⟩ => ?_⟩) hS ?_
  · go_simp
  simp only [Act.put]
  refine wpAnyX_take (i := 15) (v := .pointer (some ⟨bq, 2, none⟩)) rfl (by kernel_rfl) (by kernel_rfl) (by kernel_rfl) (by kernel_rfl) (fun _ _ _ h => h) (Or.inl ⟨by rfl, fun w ⟨s1, s2⟩ => ?_⟩) hS ?_
  · go_simp
  simp only [Act.put]
  refine wpAnyX_take (i := 16) (v := .int .i64 (h : Int)) rfl (by kernel_rfl) (by kernel_rfl) (by kernel_rfl) (by kernel_rfl) (fun _ _ _ h => h) (Or.inl ⟨by rfl, fun w ⟨s1, s2⟩ => ?_⟩) hS ?_
  · go_simp
  simp only [Act.put]
  refine wpAnyX_take (i := 17) (v := .slice (some ⟨g, h, none⟩) (n - h) (cap - h)) rfl (by kernel_rfl) (by kernel_rfl) (by kernel_rfl) (by kernel_rfl) (fun _ _ _ h => h) (Or.inl ⟨by rfl, fun w ⟨s1, s2⟩ => ?_⟩) hS ?_
  · go_simp
  simp only [Act.put]
  refine wpAnyX_take (i := 18) (v := .pointer (some ⟨J, 0, none⟩)) rfl (by kernel_rfl) (by kernel_rfl) (by kernel_rfl) (by kernel_rfl) (fun _ _ _ h => h) (Or.inl ⟨by rfl, fun w ⟨s1, s2⟩ => ?_⟩) hS ?_
  · go_simp
  simp only [Act.put]
  refine wpAnyX_take (i := 21) (v := .pointer (some ⟨J, 0, none⟩)) rfl (by kernel_rfl) (by kernel_rfl) (by kernel_rfl) (by kernel_rfl) (fun _ _ _ h => h) (Or.inl ⟨by rfl, fun w ⟨s1, s2⟩ => ?_⟩) hS ?_
  · go_simp
  simp only [Act.put]
  refine wpAnyX_two (i := 19) (j := 22) (by kernel_rfl) ?_ ?_
  · refine wpOp_step rfl (fun K hK => ?_)
    go_simp
    refine (age_push (P.out.below (Below.refl _ _).drew) hA.out hn hh).mono ?_
    rintro e w1 ⟨r, rfl, hr, hb1⟩
    have P1 : Hid (PushAt w1 bq base st _ h n L T J) := (P.out.below (Below.refl _ _).drew).below hb1
    have B1 : Hid (Below w.heap.size w w1) := (Below.refl _ _).drew.trans hb1
    clear hb1
    have HR : Hid (Where h n L T J r) := hr
    obtain ⟨_, s1, s2, _⟩ := P1.out.q.cells
    have hrn := hr.1
    clear hr
    obtain ⟨p, hp⟩ : ∃ p, h + r = p := ⟨_, rfl⟩
    have hpi : (h : Int) + (r : Int) = (p : Int) := by omega
    have hpn : p ≤ n := by omega
    have hwp : IntKind.i64.wrap (p : Int) = (p : Int) := by rw [IntKind.wrap_i64]; omega
    have HP : Hid (h + r = p) := hp
    clear hp
    go_simp
    refine hK.out _ _ ⟨fun _ => ⟨s1, s2⟩, ?_⟩
    clear hK K
    refine wpAnyX_take (i := 20) (v := .int .i64 (p : Int)) rfl (by kernel_rfl) (by kernel_rfl) (by kernel_rfl) (by kernel_rfl) (fun _ _ _ h => h) (Or.inl ⟨by rfl, fun w _ => ?_⟩) ⟨s1, s2⟩ ?_
    · go_simp
    simp only [Act.put]
    refine wpAnyX_one (i := 22) (by kernel_rfl) (wpOp_step rfl (fun K hK => ?_))
    go_simp
    have BB : Below w1.heap.size w1 (w1.alloc (.cells #[jp J] 29)) := (Below.refl _ _).alloc (Nat.le_refl _) _
    have BW : Hid (Below w.heap.size w (w1.alloc (.cells #[jp J] 29))) := B1.out.trans (BB.mono B1.out.size)
    have PW : Hid (PushAt (w1.alloc (.cells #[jp J] 29)) bq base st _ h n L T J) := P1.out.below BB
    have HV : Hid ((w1.alloc (.cells #[jp J] 29)).heap[w1.heap.size]? = some (.cells #[jp J] 29 (0, 0))) := heap_alloc_new w1 _
    have HN : Hid (Value.ownBlock (.slice (some ⟨g, 0, none⟩) n cap) ≠ some w1.heap.size) := fun e => by have := (P1.out.own.lt _ e).2; omega
    obtain ⟨_, y1, y2, _⟩ := PW.out.q.cells
    clear BB
    refine hK.out _ _ ⟨fun _ => ⟨y1, y2⟩, ?_⟩
    clear hK K
    refine wpAnyX_one (i := 23) (by kernel_rfl) (wpOp_step rfl (fun K hK => ?_))
    go_simp
    refine (ins_any base _ n p _ (L.map jp) (jp J) _ ?o (by omega) hn ?b ?hv ?ne rfl ?one).mono ?_
    case o => exact PW.out.own
    case b => exact PW.out.base_le
    case hv => exact HV.out
    case ne => exact HN.out
    case one => intro u hu; obtain ⟨b, _, rfl⟩ := List.mem_map.1 hu; rfl
    rintro e w2 ⟨v', rfl, own2, gr2⟩
    rcases own2.2 with ⟨_, hx⟩ | ⟨g2, cap2, cur2, rfl, _⟩
    · omega
    have D := push_done (base := base) (p := p) BW.out P.out own2 gr2
    have Q2 : QAt w2 bq st _ (h : Int) := PW.out.q.of_block (gr2.block bq PW.out.q.lt (fun e => PW.out.ne e.symm))
    obtain ⟨_, x1, x2, xf⟩ := Q2.cells
    have HD : Hid (Pushed w _ _ _ _ _ _ _ _ _ _ _) := D
    clear D Q2 own2 gr2 PW HV HN BW
    go_simp
    refine hK.out _ _ ⟨fun _ => ⟨x1, x2⟩, ?_⟩
    clear hK K
    refine wpAnyX_one (i := 24) (by kernel_rfl) (wpOp_step rfl (fun K hK => ?_))
    go_simp
    refine hK.out _ _ ⟨fun _ => ⟨x1, x2⟩, ?_⟩
    clear hK K
    refine wpAnyX_one (i := 25) (by kernel_rfl) (wpOp_step rfl (fun K hK => ?_))
    go_simp
    refine hK.out _ _ ⟨fun _ => ⟨x1, x2⟩, ?_⟩
    clear hK K
    refine wpAnyX_one (i := 26) (by kernel_rfl) (wpOp_step rfl (fun K hK => ?_))
    go_simp
    refine hK.out _ _ ⟨fun e => absurd rfl e, ?_⟩
    clear hK K
    refine wpAnyX_done (by kernel_rfl) ?_ _
    refine NoPanic.normal ?_
    go_end0
    have HE := HD.out
    rw [← HP.out] at HE
    exact ⟨rfl, _, r, HR.out, HE⟩
  · refine wpOp_step rfl (fun K hK => ?_)
    go_simp
    have BB : Below w.heap.size w (w.alloc (.cells #[jp J] 29)).drew := ((Below.refl _ _).alloc (Nat.le_refl _) _).drew
    have PB : Hid (PushAt (w.alloc (.cells #[jp J] 29)).drew bq base st _ h n L T J) := P.out.below BB
    have HB : Hid (Below w.heap.size w (w.alloc (.cells #[jp J] 29)).drew) := BB
    obtain ⟨_, y1, y2, _⟩ := PB.out.q.cells
    clear BB
    refine hK.out _ _ ⟨fun _ => ⟨y1, y2⟩, ?_⟩
    clear hK K
    refine wpAnyX_one (i := 19) (by kernel_rfl) (wpOp_step rfl (fun K hK => ?_))
    go_simp
    refine (age_push PB.out hA.out hn hh).mono ?_
    rintro e w1 ⟨r, rfl, hr, hb1⟩
    have P1 : Hid (PushAt w1 bq base st _ h n L T J) := PB.out.below hb1
    have PW : Hid (PushAt w1 bq base st _ h n L T J) := PB.out.below hb1
    have BW : Hid (Below w.heap.size w w1) := HB.out.trans (hb1.mono HB.out.size)
    have HV : Hid (w1.heap[w.heap.size]? = some (.cells #[jp J] 29 (0, 0))) := (hb1.block _ (by simp)).trans (heap_alloc_new w _)
    have HN : Hid (Value.ownBlock (.slice (some ⟨g, 0, none⟩) n cap) ≠ some w.heap.size) := fun e => by have := (P.out.own.lt _ e).2; omega
    clear hb1
    have HR : Hid (Where h n L T J r) := hr
    obtain ⟨_, s1, s2, _⟩ := P1.out.q.cells
    have hrn := hr.1
    clear hr
    obtain ⟨p, hp⟩ : ∃ p, h + r = p := ⟨_, rfl⟩
    have hpi : (h : Int) + (r : Int) = (p : Int) := by omega
    have hpn : p ≤ n := by omega
    have hwp : IntKind.i64.wrap (p : Int) = (p : Int) := by rw [IntKind.wrap_i64]; omega
    have HP : Hid (h + r = p) := hp
    clear hp
    go_simp
    refine hK.out _ _ ⟨fun _ => ⟨s1, s2⟩, ?_⟩
    clear hK K
    refine wpAnyX_take (i := 20) (v := .int .i64 (p : Int)) rfl (by kernel_rfl) (by kernel_rfl) (by kernel_rfl) (by kernel_rfl) (fun _ _ _ h => h) (Or.inl ⟨by rfl, fun w _ => ?_⟩) ⟨s1, s2⟩ ?_
    · go_simp
    simp only [Act.put]
    refine wpAnyX_one (i := 23) (by kernel_rfl) (wpOp_step rfl (fun K hK => ?_))
    go_simp
    refine (ins_any base _ n p _ (L.map jp) (jp J) _ ?o (by omega) hn ?b ?hv ?ne rfl ?one).mono ?_
    case o => exact PW.out.own
    case b => exact PW.out.base_le
    case hv => exact HV.out
    case ne => exact HN.out
    case one => intro u hu; obtain ⟨b, _, rfl⟩ := List.mem_map.1 hu; rfl
    rintro e w2 ⟨v', rfl, own2, gr2⟩
    rcases own2.2 with ⟨_, hx⟩ | ⟨g2, cap2, cur2, rfl, _⟩
    · omega
    have D := push_done (base := base) (p := p) BW.out P.out own2 gr2
    have Q2 : QAt w2 bq st _ (h : Int) := PW.out.q.of_block (gr2.block bq PW.out.q.lt (fun e => PW.out.ne e.symm))
    obtain ⟨_, x1, x2, xf⟩ := Q2.cells
    have HD : Hid (Pushed w _ _ _ _ _ _ _ _ _ _ _) := D
    clear D Q2 own2 gr2 PW HV HN BW
    go_simp
    refine hK.out _ _ ⟨fun _ => ⟨x1, x2⟩, ?_⟩
    clear hK K
    refine wpAnyX_one (i := 24) (by kernel_rfl) (wpOp_step rfl (fun K hK => ?_))
    go_simp
    refine hK.out _ _ ⟨fun _ => ⟨x1, x2⟩, ?_⟩
    clear hK K
    refine wpAnyX_one (i := 25) (by kernel_rfl) (wpOp_step rfl (fun K hK => ?_))
    go_simp
    refine hK.out _ _ ⟨fun _ => ⟨x1, x2⟩, ?_⟩
    clear hK K
    refine wpAnyX_one (i := 26) (by kernel_rfl) (wpOp_step rfl (fun K hK => ?_))
    go_simp
    refine hK.out _ _ ⟨fun e => absurd rfl e, ?_⟩
    clear hK K
    refine wpAnyX_done (by kernel_rfl) ?_ _
    refine NoPanic.normal ?_
    go_end0
    have HE := HD.out
    rw [← HP.out] at HE
    exact ⟨rfl, _, r, HR.out, HE⟩
end Go.Proofs.Qxb6612366a
