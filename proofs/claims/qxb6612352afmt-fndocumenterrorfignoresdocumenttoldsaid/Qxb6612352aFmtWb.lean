/-
  WALKS (b): the clones; the law.
-/
import Derived.Test.Qxb6612352aFmtWa
import Derived.Deep.OwnRows
import Derived.Deep.QuietTactic
import Derived.BigQuiet
import Derived.LaidEqlPtr
namespace Go.Proofs.Qxb6612352aFmt
open Go.RowKit Go.Extern.Stop Go.Stop Go.Extern

/-- What is known of a slice's cells. -/
def CellsAt (k : IntKind) (w : World) (p : Option Addr) (n : Nat) (z : Nat → Int) : Prop :=
  0 < n → ∃ b off, p = some ⟨b, off, none⟩ ∧ b < w.heap.size ∧ ∀ i, i < n → w.cell? ⟨b, off + i, none⟩ = some (.int k (z i))

theorem Tryf.info5 : (Tryf.prog.info? 5).map (fun i => (i.zero, i.size, i.bytes)) = some (some (.int .u8 0), 1, 1) := by kernel_rfl
theorem Tryf.info3 : (Tryf.prog.info? 3).map (fun i => (i.zero, i.size, i.bytes)) = some (some (.int .i64 0), 1, 8) := by kernel_rfl

theorem row_fill {wr : World} {b t n k : Nat} {kd : IntKind} {F : Nat → Int} (h : wr.rowIs b t n (fun i => .int kd (if i < k then F i else 0))) :
    (wr.setCell ⟨b, k, none⟩ (.int kd (F k))).rowIs b t n (fun i => .int kd (if i < k + 1 then F i else 0)) := by
  refine (h.set k _).congr fun i _ => ?_
  by_cases e : i = k
  · subst e; simp
  · rw [if_neg e]
    by_cases e2 : i < k
    · rw [if_pos e2, if_pos (by omega)]
    · rw [if_neg e2, if_neg (by omega)]

theorem cloneB_nil (n c : Nat) (w : World) : Calls Tryf.prog 5 #[.slice none n c] w fun e w' => e = .returned (.slice none 0 0) ∧ w' = w := by
  have he : ∀ w, (binOp .eql 22 (.slice none n c) (.slice none 0 0)).run Tryf.prog w = .ok (.bool true) w := fun w => Lib.run_eql_slice_nil (P := Tryf.prog) w 22 5 none n c 0 0 Tryf.underlying22
  go_enter Tryf.func5, Tryf.ntmps5
  go_wp2
  go_ret
  exact ⟨rfl, rfl⟩
theorem cloneB_some (a : Addr) (n c : Nat) (z : Nat → Int) (w : World) (hn : n ≤ 1048576) (hat : Hid (CellsAt .u8 w (some a) n z)) :
    Calls Tryf.prog 5 #[.slice (some a) n c] w fun e w' => e = .returned (.slice (some ⟨w.heap.size, 0, none⟩) n n) ∧ Below w.heap.size w w' := by
  have he : ∀ w, (binOp .eql 22 (.slice (some a) n c) (.slice none 0 0)).run Tryf.prog w = .ok (.bool false) w := fun w => Lib.run_eql_slice_nil (P := Tryf.prog) w 22 5 (some a) n c 0 0 Tryf.underlying22
  have hmk := run_make_row' (P := Tryf.prog) 22 5 (.int .u8 0) 1 Tryf.underlying22 Tryf.info5 rfl .i64 .i64 n (by omega) (by omega)
  go_enter Tryf.func5, Tryf.ntmps5
  go_wp2
  go_loopw [4] (fun i wr => ∃ k : Nat, k ≤ n ∧ i = .int .i64 k ∧ wr.rowIs w.heap.size 5 n (fun i => .int .u8 (if i < k then z i else 0)) ∧ Below w.heap.size w wr)
    (fun i _ => n - (intOf i).toNat)
  case atStart => exact ⟨0, Nat.zero_le _, rfl, World.rowIs_made _ _ _ _, (Below.refl _ _).alloc (Nat.le_refl _) _⟩
  case round =>
    obtain ⟨k, hk, rfl, h1, hbel⟩ := hrel
    by_cases hlt : k < n
    · obtain ⟨b, off, e0, hb, hcells⟩ := hat.out (by omega)
      cases e0
      have c1 := (hbel.cell (p := ⟨b, off + k, none⟩) hb).trans (hcells k hlt)
      have d1 := h1.cell hlt
      have f1 := h1.frozen k
      clear hcells
      go_wp2
      go_roundw
      case rel => exact ⟨k + 1, by omega, by go_num, row_fill h1, hbel.setCell (Nat.le_refl _) _⟩
      case measure => simp [intOf]; omega
    · go_wp2
      go_ret
      exact ⟨rfl, hbel⟩
theorem cloneB_any (p : Option Addr) (n c : Nat) (z : Nat → Int) (w : World) (hn : n ≤ 1048576) (hat : CellsAt .u8 w p n z) :
    Calls Tryf.prog 5 #[.slice p n c] w fun e w' => ∃ q m d, e = .returned (.slice q m d) ∧ Below w.heap.size w w' := by
  cases p with
  | none => exact (cloneB_nil n c w).mono fun e w' ⟨h1, h2⟩ => ⟨_, _, _, h1, h2 ▸ Below.refl _ _⟩
  | some a => exact (cloneB_some a n c z w hn hat).mono fun e w' ⟨h1, h2⟩ => ⟨_, _, _, h1, h2⟩

theorem cloneI_nil (n c : Nat) (w : World) : Calls Tryf.prog 6 #[.slice none n c] w fun e w' => e = .returned (.slice none 0 0) ∧ w' = w := by
  have he : ∀ w, (binOp .eql 23 (.slice none n c) (.slice none 0 0)).run Tryf.prog w = .ok (.bool true) w := fun w => Lib.run_eql_slice_nil (P := Tryf.prog) w 23 3 none n c 0 0 Tryf.underlying23
  go_enter Tryf.func6, Tryf.ntmps6
  go_wp2
  go_ret
  exact ⟨rfl, rfl⟩
theorem cloneI_some (a : Addr) (n c : Nat) (z : Nat → Int) (w : World) (hn : n ≤ 1048576) (hat : Hid (CellsAt .i64 w (some a) n z)) :
    Calls Tryf.prog 6 #[.slice (some a) n c] w fun e w' => e = .returned (.slice (some ⟨w.heap.size, 0, none⟩) n n) ∧ Below w.heap.size w w' := by
  have he : ∀ w, (binOp .eql 23 (.slice (some a) n c) (.slice none 0 0)).run Tryf.prog w = .ok (.bool false) w := fun w => Lib.run_eql_slice_nil (P := Tryf.prog) w 23 3 (some a) n c 0 0 Tryf.underlying23
  have hmk := run_make_row' (P := Tryf.prog) 23 3 (.int .i64 0) 8 Tryf.underlying23 Tryf.info3 rfl .i64 .i64 n (by omega) (by omega)
  go_enter Tryf.func6, Tryf.ntmps6
  go_wp2
  go_loopw [4] (fun i wr => ∃ k : Nat, k ≤ n ∧ i = .int .i64 k ∧ wr.rowIs w.heap.size 3 n (fun i => .int .i64 (if i < k then z i else 0)) ∧ Below w.heap.size w wr)
    (fun i _ => n - (intOf i).toNat)
  case atStart => exact ⟨0, Nat.zero_le _, rfl, World.rowIs_made _ _ _ _, (Below.refl _ _).alloc (Nat.le_refl _) _⟩
  case round =>
    obtain ⟨k, hk, rfl, h1, hbel⟩ := hrel
    by_cases hlt : k < n
    · obtain ⟨b, off, e0, hb, hcells⟩ := hat.out (by omega)
      cases e0
      have c1 := (hbel.cell (p := ⟨b, off + k, none⟩) hb).trans (hcells k hlt)
      have d1 := h1.cell hlt
      have f1 := h1.frozen k
      clear hcells
      go_wp2
      go_roundw
      case rel => exact ⟨k + 1, by omega, by go_num, row_fill h1, hbel.setCell (Nat.le_refl _) _⟩
      case measure => simp [intOf]; omega
    · go_wp2
      go_ret
      exact ⟨rfl, hbel⟩
theorem cloneI_any (p : Option Addr) (n c : Nat) (z : Nat → Int) (w : World) (hn : n ≤ 1048576) (hat : CellsAt .i64 w p n z) :
    Calls Tryf.prog 6 #[.slice p n c] w fun e w' => ∃ q m d, e = .returned (.slice q m d) ∧ Below w.heap.size w w' := by
  cases p with
  | none => exact (cloneI_nil n c w).mono fun e w' ⟨h1, h2⟩ => ⟨_, _, _, h1, h2 ▸ Below.refl _ _⟩
  | some a => exact (cloneI_some a n c z w hn hat).mono fun e w' ⟨h1, h2⟩ => ⟨_, _, _, h1, h2⟩


theorem below_answers {F : Interp} {B : Nat} {w w' : World} (hF : F.answers w.tape) (hb : Below B w w') : F.answers w'.tape := by rw [hb.tape]; exact hF

theorem Tryf.info32 : (Tryf.prog.info? 32).map (fun i => i.size) = some 3 := by kernel_rfl
theorem ptr_ne {W : World} {a b : Nat} {ca cb : Array Value} (hne : a ≠ b) (ha : W.heap[a]? = some (.cells ca 32 (0, 0))) (hb : W.heap[b]? = some (.cells cb 32 (0, 0))) :
    (binOp .eql 29 (.pointer (some ⟨a, 0, none⟩)) (.pointer (some ⟨b, 0, none⟩))).run Tryf.prog W = .ok (.bool false) W := by
  obtain ⟨j, hj, hs⟩ := Option.map_eq_some_iff.1 Tryf.info32
  exact run_eql_ptr_other W Tryf.underlying29 hj (by rw [hs]; decide) (fun e => hne (congrArg Addr.block e)) ha hb
theorem blk_new (w : World) (o : Obj) : (w.alloc o).heap[w.heap.size]? = some o := Deep.blk_alloc_new w o
theorem blk_old {w : World} {o : Obj} {k : Nat} {x : Obj} (h : w.heap[k]? = some x) : (w.alloc o).heap[k]? = some x := (Below.heap_alloc _ _ _ (lt_of_block h)).trans h

set_option maxRecDepth 100000 in
set_option maxHeartbeats 1000000 in
theorem law_in (F : Interp) (p1 p2 : Option Addr) (m1 c1 m2 c2 : Nat) (z1 z2 : Nat → Int) (line : Int) (f : ByteArray) (w : World) (hF : F.answers w.tape) (h1 : Hid (CellsAt .u8 w p1 m1 z1)) (h2 : Hid (CellsAt .i64 w p2 m2 z2))
    (hb : m1 + m2 + f.size ≤ 1048576) (hb1 : m2 ≤ 131072) (hb2 : m1 + 8 * m2 + f.size ≤ 1048576) :
    Calls Tryf.prog 3 #[.slice p1 m1 c1, .slice p2 m2 c2, .int .i64 line, .string f] w fun e w' => e = .returned (.bool true) ∧ Below w.heap.size w w' := by
  have d1 : decide ((1048576 : Int) < (m1 : Int)) = false := decide_eq_false (by omega)
  have d2 : decide ((131072 : Int) < (m2 : Int)) = false := decide_eq_false (by omega)
  have d3 : decide ((1048576 : Int) < (f.size : Int)) = false := decide_eq_false (by omega)
  have HF : Hid (F.answers w.tape) := hF
  clear hF
  go_enter Tryf.func3, Tryf.ntmps3
  go_wp2_with (go_at_call 4; refine (bytes_yes p1 p2 m1 c1 m2 c2 line f _ hb).mono ?_; rintro e w' ⟨rfl, hw⟩; rw [hw])
  refine (cloneB_any p1 m1 c1 z1 w (by omega) h1.out).mono ?_
  rintro e w1 ⟨q1, n1, k1, rfl, b1⟩
  have h2' : Hid (CellsAt .i64 w1 p2 m2 z2) := by
    intro hp
    obtain ⟨b, off, e0, hb, hc⟩ := h2.out hp
    exact ⟨b, off, e0, Nat.lt_of_lt_of_le hb b1.size, fun i hi => (b1.cell (p := ⟨b, off + i, none⟩) hb).trans (hc i hi)⟩
  go_wp2_with fail
  refine (cloneI_any p2 m2 c2 z2 w1 (by omega) h2'.out).mono ?_
  rintro e w2 ⟨q2, n2, k2, rfl, b2⟩
  have B2 : Hid (Below w.heap.size w w2) := b1.trans (b2.mono b1.size)
  have A2 : Hid (F.answers w2.tape) := below_answers HF.out B2.out
  clear b1 b2 h1 h2 h2' HF
  go_wp2_with (go_at_call 7; refine (newDoc_any _ _ _ _ _ _ _).mono ?_; rintro e w' ⟨rfl, rfl⟩)
  refine (zzErrorf_any F _ line f _ (by exact A2.out)).mono ?_
  rintro e w' ⟨rfl, rfl⟩
  go_wp2_with fail
  refine (zzErrorf_any F _ line f _ (by exact A2.out)).mono ?_
  rintro e w' ⟨rfl, rfl⟩
  have hA : ((((w2.alloc (.cells #[.slice q1 n1 k1, .slice q2 n2 k2] 34)).alloc (.cells #[.slice none 0 0, .slice none 0 0] 34)).alloc (.cells #[.string ⟨#[]⟩, .int .i64 line, .string (txt F f)] 32)).alloc (.cells #[.string ⟨#[]⟩, .int .i64 line, .string (txt F f)] 32)).heap[w2.heap.size + 1 + 1]? = some (.cells #[.string ⟨#[]⟩, .int .i64 line, .string (txt F f)] 32 (0, 0)) :=
    blk_old (by simpa using blk_new ((w2.alloc (.cells #[.slice q1 n1 k1, .slice q2 n2 k2] 34)).alloc (.cells #[.slice none 0 0, .slice none 0 0] 34)) (.cells #[.string ⟨#[]⟩, .int .i64 line, .string (txt F f)] 32))
  have hB : ((((w2.alloc (.cells #[.slice q1 n1 k1, .slice q2 n2 k2] 34)).alloc (.cells #[.slice none 0 0, .slice none 0 0] 34)).alloc (.cells #[.string ⟨#[]⟩, .int .i64 line, .string (txt F f)] 32)).alloc (.cells #[.string ⟨#[]⟩, .int .i64 line, .string (txt F f)] 32)).heap[w2.heap.size + 1 + 1 + 1]? = some (.cells #[.string ⟨#[]⟩, .int .i64 line, .string (txt F f)] 32 (0, 0)) := by
    simpa using blk_new (((w2.alloc (.cells #[.slice q1 n1 k1, .slice q2 n2 k2] 34)).alloc (.cells #[.slice none 0 0, .slice none 0 0] 34)).alloc (.cells #[.string ⟨#[]⟩, .int .i64 line, .string (txt F f)] 32)) (.cells #[.string ⟨#[]⟩, .int .i64 line, .string (txt F f)] 32)
  have he := ptr_ne (W := (((((w2.alloc (.cells #[.slice q1 n1 k1, .slice q2 n2 k2] 34)).alloc (.cells #[.slice none 0 0, .slice none 0 0] 34)).alloc (.cells #[.string ⟨#[]⟩, .int .i64 line, .string (txt F f)] 32)).alloc (.cells #[.string ⟨#[]⟩, .int .i64 line, .string (txt F f)] 32)).drew.drew)) (by omega) hA hB
  clear hA hB
  have e2 : (line == line) = true := by simp
  have e3 : ((txt F f).toList == (txt F f).toList) = true := by simp
  go_wp2_with fail
  go_quiet (fail)
  go_wp2_with fail
  go_ret
  exact ⟨rfl, (((((B2.out.alloc B2.out.size _).alloc (Nat.le_trans B2.out.size (by simp)) _).alloc (Nat.le_trans B2.out.size (by simp; omega)) _).alloc (Nat.le_trans B2.out.size (by simp; omega)) _).drew.drew).trans ⟨rfl, rfl, rfl, Nat.le_refl _, fun _ _ => rfl⟩⟩

theorem law_any (F : Interp) (p1 p2 : Option Addr) (m1 c1 m2 c2 : Nat) (z1 z2 : Nat → Int) (line : Int) (f : ByteArray) (w : World) (hF : F.answers w.tape) (h1 : CellsAt .u8 w p1 m1 z1) (h2 : CellsAt .i64 w p2 m2 z2) :
    Calls Tryf.prog 3 #[.slice p1 m1 c1, .slice p2 m2 c2, .int .i64 line, .string f] w fun e w' => e = .returned (.bool true) ∧ Below w.heap.size w w' := by
  by_cases hb : m1 + m2 + f.size ≤ 1048576
  · by_cases hb1 : m2 ≤ 131072
    · by_cases hb2 : m1 + 8 * m2 + f.size ≤ 1048576
      · exact law_in F p1 p2 m1 c1 m2 c2 z1 z2 line f w hF h1 h2 hb hb1 hb2
      · clear h1 h2 hF
        have d1 : decide ((1048576 : Int) < (m1 : Int)) = false := decide_eq_false (by omega)
        have d2 : decide ((131072 : Int) < (m2 : Int)) = false := decide_eq_false (by omega)
        have d3 : decide ((1048576 : Int) < (f.size : Int)) = false := decide_eq_false (by omega)
        go_enter Tryf.func3, Tryf.ntmps3
        go_wp2_with (go_at_call 4; refine (bytes_yes p1 p2 m1 c1 m2 c2 line f _ hb).mono ?_; rintro e w' ⟨rfl, hw⟩; rw [hw])
        go_ret
        exact ⟨rfl, Below.refl _ _⟩
    · clear h1 h2 hF
      have d1 : decide ((1048576 : Int) < (m1 : Int)) = false := decide_eq_false (by omega)
      have d2 : decide ((131072 : Int) < (m2 : Int)) = true := decide_eq_true (by omega)
      go_enter Tryf.func3, Tryf.ntmps3
      go_wp2_with (go_at_call 4; refine (bytes_yes p1 p2 m1 c1 m2 c2 line f _ hb).mono ?_; rintro e w' ⟨rfl, hw⟩; rw [hw])
      go_ret
      exact ⟨rfl, Below.refl _ _⟩
  · clear h1 h2 hF
    go_enter Tryf.func3, Tryf.ntmps3
    go_wp2_with (go_at_call 4; refine (bytes_no p1 p2 m1 c1 m2 c2 line f _ hb).mono ?_; rintro e w' ⟨rfl, hw⟩; rw [hw])
    go_ret
    exact ⟨rfl, Below.refl _ _⟩
end Go.Proofs.Qxb6612352aFmt
