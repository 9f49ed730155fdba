/-
  WALKS (c): zzBuild.
-/
import Derived.Test.Qxb6609258aWb
import Derived.Deep.DeepCutAuto
import Derived.BigRegion
namespace Go.Proofs.Qxb6609258a
open Go.RowKit

/-- Cell i of a row of nodes. -/
def nodeV (N : Nat → Nat → Int) (i : Nat) : Value := .int (if i % 7 < 4 then .u64 else .i32) (N (i / 7) (i % 7))
def NRow (w : World) (b n : Nat) (N : Nat → Nat → Int) : Prop := w.rowIs b 53 (n * 7) (nodeV N)
theorem NRow.cell {w : World} {b n : Nat} {N : Nat → Nat → Int} (h : NRow w b n N) {k : Nat} (hk : k < n) (c : Nat) (hc : c < 7) :
    w.cell? ⟨b, k * 7 + c, none⟩ = some (.int (if c < 4 then .u64 else .i32) (N k c)) := by
  have := World.rowIs.cell h (i := k * 7 + c) (by omega)
  rw [this]
  have e1 : (k * 7 + c) % 7 = c := by omega
  have e2 : (k * 7 + c) / 7 = k := by omega
  simp [nodeV, e1, e2]
theorem NRow.frozen {w : World} {b n : Nat} {N : Nat → Nat → Int} (h : NRow w b n N) (i : Nat) : w.frozen? ⟨b, i, none⟩ = false := World.rowIs.frozen h i

/-- Node t is laid anew. -/
def putN (N : Nat → Nat → Int) (t : Nat) (a0 a1 a2 a3 a4 a5 a6 : Int) (j c : Nat) : Int :=
  if j = t then (if c = 0 then a0 else if c = 1 then a1 else if c = 2 then a2 else if c = 3 then a3 else if c = 4 then a4 else if c = 5 then a5 else if c = 6 then a6 else N j c) else N j c
theorem putN_other {N : Nat → Nat → Int} {t : Nat} {a0 a1 a2 a3 a4 a5 a6 : Int} {j : Nat} (h : j ≠ t) (c : Nat) : putN N t a0 a1 a2 a3 a4 a5 a6 j c = N j c := by simp [putN, h]
def put7 (w : World) (b t : Nat) (a0 a1 a2 a3 a4 a5 a6 : Int) : World :=
  (((((((w.setCell ⟨b, t * 7, none⟩ (.int .u64 a0)).setCell ⟨b, t * 7 + 1, none⟩ (.int .u64 a1)).setCell ⟨b, t * 7 + 2, none⟩ (.int .u64 a2)).setCell ⟨b, t * 7 + 3, none⟩ (.int .u64 a3)).setCell
    ⟨b, t * 7 + 4, none⟩ (.int .i32 a4)).setCell ⟨b, t * 7 + 5, none⟩ (.int .i32 a5)).setCell ⟨b, t * 7 + 6, none⟩ (.int .i32 a6))
theorem NRow.put {w : World} {b n : Nat} {N : Nat → Nat → Int} (h : NRow w b n N) (t : Nat) (a0 a1 a2 a3 a4 a5 a6 : Int) : NRow (put7 w b t a0 a1 a2 a3 a4 a5 a6) b n (putN N t a0 a1 a2 a3 a4 a5 a6) := by
  refine (((((((World.rowIs.set h (t * 7) (.int .u64 a0)).set (t * 7 + 1) (.int .u64 a1)).set (t * 7 + 2) (.int .u64 a2)).set (t * 7 + 3) (.int .u64 a3)).set (t * 7 + 4) (.int .i32 a4)).set (t * 7 + 5) (.int .i32 a5)).set (t * 7 + 6) (.int .i32 a6)).congr fun i _ => ?_
  by_cases hi : i / 7 = t
  · have e : i = t * 7 + i % 7 := by omega
    rcases (by omega : i % 7 = 0 ∨ i % 7 = 1 ∨ i % 7 = 2 ∨ i % 7 = 3 ∨ i % 7 = 4 ∨ i % 7 = 5 ∨ i % 7 = 6) with h | h | h | h | h | h | h <;> (rw [h] at e; simp [nodeV, putN, e]) <;> omega
  · have n0 : ¬ i = t * 7 := by omega
    have n1 : ¬ i = t * 7 + 1 := by omega
    have n2 : ¬ i = t * 7 + 2 := by omega
    have n3 : ¬ i = t * 7 + 3 := by omega
    have n4 : ¬ i = t * 7 + 4 := by omega
    have n5 : ¬ i = t * 7 + 5 := by omega
    have n6 : ¬ i = t * 7 + 6 := by omega
    simp [nodeV, putN, hi, n0, n1, n2, n3, n4, n5, n6]
theorem row_put {w : World} {b b' t' n t : Nat} {f : Nat → Value} (h : w.rowIs b t' n f) (ne : b ≠ b') (a0 a1 a2 a3 a4 a5 a6 : Int) : (put7 w b' t a0 a1 a2 a3 a4 a5 a6).rowIs b t' n f :=
  ((((((h.setOther ne _).setOther ne _).setOther ne _).setOther ne _).setOther ne _).setOther ne _).setOther ne _
theorem keep_put {S : List Nat} {a w : World} {b t : Nat} (h : Keep S a w) (hb : b ∈ S) (a0 a1 a2 a3 a4 a5 a6 : Int) : Keep S a (put7 w b t a0 a1 a2 a3 a4 a5 a6) :=
  ((((((h.setCell hb _).setCell hb _).setCell hb _).setCell hb _).setCell hb _).setCell hb _).setCell hb _
theorem row_ne {w : World} {b b' t t' n n' : Nat} {f f' : Nat → Value} (h : w.rowIs b t n f) (h' : w.rowIs b' t' n' f') (ne : t ≠ t') : b ≠ b' := by
  rintro rfl
  obtain ⟨c, h1, _⟩ := h
  obtain ⟨c', h2, _⟩ := h'
  rw [h1] at h2
  simp at h2
  exact ne h2.2

/-- All that zzBuild is handed. -/
structure Bld (FL H : Nat → Int) (l : List Nat) (n bn bf bh bp bl bs : Nat) (w : World) (N : Nat → Nat → Int) : Prop where
  hn : NRow w bn n N
  hf : w.rowIs bf 38 n (fun i => .int .u64 (FL i))
  hh : w.rowIs bh 38 n (fun i => .int .u64 (H i))
  hp : PRow w bp n l
  hl : ∃ g : Nat → Int, w.rowIs bl 3 n (fun i => .int .i64 (g i))
  hs : ∃ g : Nat → Int, w.rowIs bs 3 n (fun i => .int .i64 (g i))

theorem Bld.drew {FL H : Nat → Int} {l : List Nat} {n bn bf bh bp bl bs : Nat} {w : World} {N : Nat → Nat → Int} (h : Bld FL H l n bn bf bh bp bl bs w N) : Bld FL H l n bn bf bh bp bl bs w.drew N :=
  ⟨World.rowIs.drew (w := w) h.hn, h.hf.drew, h.hh.drew, World.rowIs.drew (w := w) h.hp, h.hl.elim fun g hg => ⟨g, hg.drew⟩, h.hs.elim fun g hg => ⟨g, hg.drew⟩⟩
theorem Bld.put {FL H : Nat → Int} {l : List Nat} {n bn bf bh bp bl bs : Nat} {w : World} {N : Nat → Nat → Int} (h : Bld FL H l n bn bf bh bp bl bs w N) (ne1 : bl ≠ bp) (ne2 : bs ≠ bp) (ne3 : bl ≠ bs)
    (t : Nat) (a0 a1 a2 a3 a4 a5 a6 x y : Int) :
    Bld FL H l n bn bf bh bp bl bs (((put7 w bn t a0 a1 a2 a3 a4 a5 a6).setCell ⟨bl, t, none⟩ (.int .i64 x)).setCell ⟨bs, t, none⟩ (.int .i64 y)) (putN N t a0 a1 a2 a3 a4 a5 a6) := by
  obtain ⟨g1, hl⟩ := h.hl
  obtain ⟨g2, hs⟩ := h.hs
  have nf : bf ≠ bn := row_ne h.hf h.hn (by decide)
  have nh : bh ≠ bn := row_ne h.hh h.hn (by decide)
  have np : bp ≠ bn := row_ne h.hp h.hn (by decide)
  have nl : bl ≠ bn := row_ne hl h.hn (by decide)
  have ns : bs ≠ bn := row_ne hs h.hn (by decide)
  have nfl : bf ≠ bl := row_ne h.hf hl (by decide)
  have nfs : bf ≠ bs := row_ne h.hf hs (by decide)
  have nhl : bh ≠ bl := row_ne h.hh hl (by decide)
  have nhs : bh ≠ bs := row_ne h.hh hs (by decide)
  refine ⟨World.rowIs.setOther (World.rowIs.setOther (h.hn.put t a0 a1 a2 a3 a4 a5 a6) nl.symm _) ns.symm _, ((row_put h.hf nf _ _ _ _ _ _ _).setOther nfl _).setOther nfs _, ((row_put h.hh nh _ _ _ _ _ _ _).setOther nhl _).setOther nhs _,
    ((row_put h.hp np _ _ _ _ _ _ _).setOther ne1.symm _).setOther ne2.symm _, ⟨fun i => if i = t then x else g1 i, ?_⟩, ⟨fun i => if i = t then y else g2 i, ?_⟩⟩
  · refine (((row_put hl nl a0 a1 a2 a3 a4 a5 a6).set t (.int .i64 x)).setOther ne3 _).congr fun i _ => ?_
    by_cases e : i = t <;> simp [e]
  · refine (((row_put hs ns a0 a1 a2 a3 a4 a5 a6).setOther ne3.symm (.int .i64 x)).set t (.int .i64 y)).congr fun i _ => ?_
    by_cases e : i = t <;> simp [e]

theorem nodup_parts {A B C : List Nat} {t : Nat} (h : A.Nodup) (e : A = B ++ t :: C) : t ∉ B ∧ t ∉ C ∧ ∀ j ∈ B, j ∉ C := by
  subst e
  rw [List.nodup_append] at h
  obtain ⟨_, h2, h3⟩ := h
  rw [List.nodup_cons] at h2
  exact ⟨fun hm => h3 t hm t (by simp) rfl, h2.1, fun j hj hc => h3 j hj j (by simp [hc]) rfl⟩

set_option maxRecDepth 100000 in
set_option maxHeartbeats 1000000 in
theorem build_any (FL H : Nat → Int) (l : List Nat) (n bn bf bh bp bl bs : Nat) (hn : n ≤ 4096) (hlen : l.length = n) (hperm : l.Perm (List.range n)) (hsort : Sorted H l)
    (ne1 : bl ≠ bp) (ne2 : bs ≠ bp) (ne3 : bl ≠ bs) (d : Nat) : ∀ (lo hi : Nat) (lo' hi' par : Int) (w : World) (N : Nat → Nat → Int), lo' = (lo : Int) → hi' = (hi : Int) → lo ≤ hi → hi ≤ n → hi - lo ≤ d →
    Bld FL H l n bn bf bh bp bl bs w N →
    Calls Try.prog 19 #[.slice (some ⟨bn, 0, none⟩) n n, .slice (some ⟨bf, 0, none⟩) n n, .slice (some ⟨bh, 0, none⟩) n n, .slice (some ⟨bp, 0, none⟩) n n, .int .i64 lo', .int .i64 hi', .int .i32 par, .slice (some ⟨bl, 0, none⟩) n n, .slice (some ⟨bs, 0, none⟩) n n] w
      fun e w' => ∃ (r : Int) (N' : Nat → Nat → Int), e = .returned (.int .i32 r) ∧ Bld FL H l n bn bf bh bp bl bs w' N' ∧ Keep [bn, bl, bs] w w' ∧
        (∀ j, j ∉ part l lo hi → ∀ c, N' j c = N j c) ∧ Tree FL H n N' d r (part l lo hi) := by
  induction d with
  | zero =>
    intro lo hi lo' hi' par w N e1 e2 h1 h2 h3 hB
    have h4 : hi' ≤ lo' := by omega
    have HP : Hid (part l lo hi = []) := part_nil l (by omega)
    go_enter Try.func19, Try.ntmps19
    go_wp2_with fail
    go_ret
    refine ⟨-1, N, rfl, hB, Keep.refl _ _, fun _ _ _ => rfl, ?_⟩
    rw [HP.out]; unfold Tree; exact ⟨rfl, rfl⟩
  | succ d ih =>
    intro lo hi lo' hi' par w N e1 e2 h1 h2 h3 hB
    by_cases hlt : lo < hi
    · subst e1 e2
      obtain ⟨mid, hm⟩ : ∃ mid : Nat, (lo : Int) + ((hi : Int) - (lo : Int)) / 2 = (mid : Int) := ⟨lo + (hi - lo) / 2, by omega⟩
      have m1 : lo ≤ mid := by omega
      have m2 : mid < hi := by omega
      have m3 : (mid : Int) < (n : Int) := by omega
      have ct := hB.hp.cell (i := mid) (by omega)
      obtain ⟨t, ht⟩ : ∃ t, l.getD mid 0 = t := ⟨_, rfl⟩
      rw [ht] at ct
      have htn : t < n := by rw [← ht]; exact perm_lt hlen hperm (by omega)
      have HS : Hid (part l lo hi = part l lo mid ++ t :: part l (mid + 1) hi) := by rw [← ht]; exact part_split l m1 m2 (by omega)
      have HT : Hid (l.getD mid 0 = t) := ht
      clear ht
      go_enter Try.func19, Try.ntmps19
      go_wp2_with fail
      refine (ih lo mid _ _ _ _ N (by omega) (by omega) m1 (by omega) (by omega) hB).mono ?_
      rintro e w1 ⟨r1, N1, rfl, hB1, k1, f1, t1⟩
      clear hB ct hm
      go_wp2_with fail
      refine (ih (mid + 1) hi _ _ _ _ N1 (by omega) (by omega) (by omega) h2 (by omega) hB1).mono ?_
      rintro e w2 ⟨r2, N2, rfl, hB2, k2, f2, t2⟩
      clear hB1 ih
      obtain ⟨nd1, nd2, nd3⟩ := nodup_parts ((part_sub l lo hi).nodup (hperm.nodup_iff.2 List.nodup_range)) HS.out
      have T1 : Hid (Tree FL H n N2 d r1 (part l lo mid)) := tree_congr d _ _ (fun j hj c => f2 j (nd3 j hj) c) t1
      have T2 : Hid (Tree FL H n N2 d r2 (part l (mid + 1) hi)) := t2
      have F : Hid (∀ j, j ∉ part l lo hi → ∀ c, N2 j c = N j c) := by
        intro j hj c
        rw [HS.out] at hj
        simp only [List.mem_append, List.mem_cons, not_or] at hj
        rw [f2 j hj.2.2 c, f1 j hj.1 c]
      have K : Hid (Keep [bn, bl, bs] w w2) := k1.trans k2
      have ND : Hid (t ∉ part l lo mid ∧ t ∉ part l (mid + 1) hi) := ⟨nd1, nd2⟩
      have BB : Hid (Bld FL H l n bn bf bh bp bl bs w2 N2) := hB2
      have cf := hB2.hf.cell htn
      have ch := hB2.hh.cell htn
      have tn : (t : Int) < (n : Int) := by omega
      clear f1 f2 t1 t2 k1 k2 nd1 nd2 nd3 hB2
      go_upto_if 70 with fail
      go_cut [23, 24] from 25 (fun a b wc => ∃ x y : Int, a = .int .u64 x ∧ b = .int .u64 y ∧ FL t ≤ y ∧ Hid (∀ j ∈ part l lo mid, FL j ≤ y) ∧ w2 = wc)
      case first =>
        rcases tree_top T1.out with ⟨rfl, hA⟩ | ⟨k, rfl, hk, _, hf⟩
        · go_wp2
          go_meet
          exact ⟨_, _, rfl, rfl, Int.le_refl _, fun j hj => by rw [hA] at hj; simp at hj, rfl⟩
        · have c2 : w2.cell? ⟨bn, k * 7 + 2, none⟩ = some (.int .u64 (N2 k 2)) := BB.out.hn.cell hk 2 (by omega)
          have c3 : w2.cell? ⟨bn, k * 7 + 3, none⟩ = some (.int .u64 (N2 k 3)) := BB.out.hn.cell hk 3 (by omega)
          have HF : Hid (∀ j ∈ part l lo mid, FL j ≤ N2 k 3) := hf
          clear hf
          go_wp2
          all_goals
            go_meet
            exact ⟨_, _, rfl, rfl, by omega, fun j hj => by have := HF.out j hj; omega, rfl⟩
      case rest =>
        obtain ⟨x, y, rfl, rfl, hy, HA, rfl⟩ := hcut
        go_upto_if 96 with fail
        go_cut [23, 24] from 25 (fun a b wc => ∃ x' y' : Int, a = .int .u64 x' ∧ b = .int .u64 y' ∧ y ≤ y' ∧ Hid (∀ j ∈ part l (mid + 1) hi, FL j ≤ y') ∧ w2 = wc)
        case first =>
          rcases tree_top T2.out with ⟨rfl, hA⟩ | ⟨k, rfl, hk, _, hf⟩
          · go_wp2
            go_meet
            exact ⟨_, _, rfl, rfl, Int.le_refl _, fun j hj => by rw [hA] at hj; simp at hj, rfl⟩
          · have c2 : w2.cell? ⟨bn, k * 7 + 2, none⟩ = some (.int .u64 (N2 k 2)) := BB.out.hn.cell hk 2 (by omega)
            have c3 : w2.cell? ⟨bn, k * 7 + 3, none⟩ = some (.int .u64 (N2 k 3)) := BB.out.hn.cell hk 3 (by omega)
            have HF : Hid (∀ j ∈ part l (mid + 1) hi, FL j ≤ N2 k 3) := hf
            clear hf
            go_wp2
            all_goals
              go_meet
              exact ⟨_, _, rfl, rfl, by omega, fun j hj => by have := HF.out j hj; omega, rfl⟩
        case rest =>
          obtain ⟨x', y', rfl, rfl, hy', HA', rfl⟩ := hcut
          have q0 : w2.cell? ⟨bn, t * 7, none⟩ = some (.int .u64 (N2 t 0)) := BB.out.hn.cell htn 0 (by omega)
          have q1 : w2.cell? ⟨bn, t * 7 + 1, none⟩ = some (.int .u64 (N2 t 1)) := BB.out.hn.cell htn 1 (by omega)
          have q2 : w2.cell? ⟨bn, t * 7 + 2, none⟩ = some (.int .u64 (N2 t 2)) := BB.out.hn.cell htn 2 (by omega)
          have q3 : w2.cell? ⟨bn, t * 7 + 3, none⟩ = some (.int .u64 (N2 t 3)) := BB.out.hn.cell htn 3 (by omega)
          have q4 : w2.cell? ⟨bn, t * 7 + 4, none⟩ = some (.int .i32 (N2 t 4)) := BB.out.hn.cell htn 4 (by omega)
          have q5 : w2.cell? ⟨bn, t * 7 + 5, none⟩ = some (.int .i32 (N2 t 5)) := BB.out.hn.cell htn 5 (by omega)
          have q6 : w2.cell? ⟨bn, t * 7 + 6, none⟩ = some (.int .i32 (N2 t 6)) := BB.out.hn.cell htn 6 (by omega)
          have z0 := fun i => BB.out.hn.frozen i
          obtain ⟨g1, hgl⟩ := BB.out.hl
          obtain ⟨g2, hgs⟩ := BB.out.hs
          have vl := hgl.cell htn
          have vs := hgs.cell htn
          have zl := hgl.frozen t
          have zs := hgs.frozen t
          have nl : bl ≠ bn := row_ne hgl BB.out.hn (by decide)
          have ns : bs ≠ bn := row_ne hgs BB.out.hn (by decide)
          have B3 : Hid (Bld FL H l n bn bf bh bp bl bs _ _) := BB.out.put ne1 ne2 ne3 t (FL t) (H t) x' y' r1 r2 par (lo : Int) (hi : Int)
          have B4 : Hid (Bld FL H l n bn bf bh bp bl bs _ _) := B3.out.drew
          clear B3
          clear hgl hgs
          go_wp2_with fail
          go_region
          go_wp2_with fail
          go_ret
          refine ⟨(t : Int), putN N2 t (FL t) (H t) x' y' r1 r2 par, rfl, B4.out, (((keep_put K.out (by simp) _ _ _ _ _ _ _).setCell (by simp) _).setCell (by simp) _).drew, ?_, ?_⟩
          · intro j hj c
            have e : j ≠ t := by rintro rfl; exact hj (by rw [HS.out]; simp)
            rw [putN_other e, F.out j hj c]
          · unfold Tree
            refine .inr ⟨t, part l lo mid, part l (mid + 1) hi, rfl, htn, HS.out, by simp [putN], by simp [putN], ?_, ?_, ?_, ?_⟩
            · have e : putN N2 t (FL t) (H t) x' y' r1 r2 par t 4 = r1 := by simp [putN]
              rw [e]
              exact tree_congr d _ _ (fun j hj c => putN_other (by rintro rfl; exact ND.out.1 hj) c) T1.out
            · have e : putN N2 t (FL t) (H t) x' y' r1 r2 par t 5 = r2 := by simp [putN]
              rw [e]
              exact tree_congr d _ _ (fun j hj c => putN_other (by rintro rfl; exact ND.out.2 hj) c) T2.out
            · intro j hj
              have e : putN N2 t (FL t) (H t) x' y' r1 r2 par t 3 = y' := by simp [putN]
              rw [e]
              rw [HS.out] at hj
              simp only [List.mem_append, List.mem_cons] at hj
              rcases hj with hj | rfl | hj
              · have := HA.out j hj; omega
              · omega
              · exact HA'.out j hj
            · intro j hj
              have hs2 : Sorted H (part l lo hi) := List.Pairwise.sublist (part_sub l lo hi) hsort
              rw [HS.out] at hs2
              unfold Sorted at hs2
              rw [List.pairwise_append, List.pairwise_cons] at hs2
              exact hs2.2.1.1 j hj
    · have h4 : hi' ≤ lo' := by omega
      have HP : Hid (part l lo hi = []) := part_nil l (by omega)
      go_enter Try.func19, Try.ntmps19
      go_wp2_with fail
      go_ret
      refine ⟨-1, N, rfl, hB, Keep.refl _ _, fun _ _ _ => rfl, ?_⟩
      rw [HP.out]; unfold Tree; exact .inl ⟨rfl, rfl⟩
end Go.Proofs.Qxb6609258a
