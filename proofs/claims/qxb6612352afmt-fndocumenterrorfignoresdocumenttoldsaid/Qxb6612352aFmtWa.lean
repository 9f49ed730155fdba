/-
  WALKS (a): fmt.Sprintf with no operand at whatever format; errorf; ZZdocumentErrorf; ZZnewDocument.
-/
import Derived.Test.Qxb6612352aFmtCards
import Derived.WalkKit
import Derived.WalkSpells
import Derived.Stop.CallBack
import Derived.Stop.IfaceNil
namespace Go.Proofs.Qxb6612352aFmt
open Go.RowKit Go.Extern.Stop Go.Stop Go.Extern

/-- With no operand at hand the walk over a format books none. -/
theorem walk_zero (fuel : Nat) : ∀ (k : Nat) (l : List UInt8), FmtDoors.walk 0 fuel k l [] = none ∨ ∃ k', FmtDoors.walk 0 fuel k l [] = some ([], k') := by
  induction fuel with
  | zero => intro k l; exact .inl (by simp [FmtDoors.walk])
  | succ fuel ih =>
    intro k l
    cases l with
    | nil => exact .inr ⟨k, by simp [FmtDoors.walk]⟩
    | cons c r =>
      rw [FmtDoors.walk]
      dsimp only
      repeat' split
      all_goals first | exact .inl rfl | exact .inr ⟨_, rfl⟩ | exact ih _ _ | (exfalso; simp_all)
theorem printed_zero (f : ByteArray) : FmtStop.printed? f 0 = none ∨ FmtStop.printed? f 0 = some [] := by
  unfold FmtStop.printed?
  rcases walk_zero (f.size + 1) 0 f.data.toList with h | ⟨k, h⟩
  · exact .inl (by rw [h]; rfl)
  · exact .inr (by rw [h]; simp)

theorem call10 (args : Array Value) (w : World) : (callFunc 10 args).run Tryf.prog w = (FmtCalls.sprintf #[9, 36] #[9] args).run Tryf.prog w :=
  run_callFunc_next Tryf.func10 (by kernel_rfl) (by kernel_rfl) (by kernel_rfl) args w
theorem guard10 (name : String) (w : World) : (FmtStop.guard name).run Tryf.prog w = .ok () w := by kernel_rfl
theorem nextTurns : Extern.next FmtCalls.turnsRow = some (FmtCalls.begun #[] #[]) := by kernel_rfl

/-- The text that fmt gives for a format and no operand. -/
def txt (F : Interp) (f : ByteArray) : ByteArray := FmtStop.textOf (F "fmt.Sprintf" [f.data.toList] 0)

theorem run_finish (F : Interp) (f : ByteArray) (w : World) (hF : F.answers w.tape) : (FmtCalls.finish 0 (.slice none 0 0) f [] 0).run Tryf.prog w = .ok (.value (.string (txt F f))) w.drew := by
  have hF' := answers_open hF
  unfold FmtCalls.finish
  go_simp
  rfl
theorem run_none (F : Interp) (f : ByteArray) (w : World) (hF : F.answers w.tape) (hp : FmtStop.printed? f 0 = none) :
    (callFunc 10 #[.string f, .slice none 0 0]).run Tryf.prog w = .ok (.value (.string (txt F f))) w.drew := by
  have hg := guard10
  have hr := run_finish F f w hF
  rw [call10]
  simp [FmtCalls.sprintf_lit, hg, FmtDoors.count, hp, FmtStop.cells, hr]
theorem run_some (f : ByteArray) (w : World) (hp : FmtStop.printed? f 0 = some []) :
    (callFunc 10 #[.string f, .slice none 0 0]).run Tryf.prog w = .ok (.row FmtCalls.turnsRow (FmtCalls.save 0 0 (.slice none 0 0) f [] [])) w := by
  have hg := guard10
  rw [call10]
  simp [FmtCalls.sprintf_lit, hg, FmtDoors.count, hp]
theorem run_begun (F : Interp) (f : ByteArray) (w : World) (hF : F.answers w.tape) :
    (FmtCalls.begun #[] #[] (FmtCalls.save 0 0 (.slice none 0 0) f [] [])).run Tryf.prog w = .ok (.value (.string (txt F f))) w.drew := by
  have hr := run_finish F f w hF
  simp [FmtCalls.begun, FmtCalls.save, FmtCalls.resume, FmtCalls.strings, FmtDoors.triples, FmtCalls.turns, hr]

/-- (*document).errorf with no operand. -/
theorem errorf_any (F : Interp) (d : Value) (line : Int) (f : ByteArray) (w : World) (hF : F.answers w.tape) :
    Calls Tryf.prog 9 #[d, .int .i64 line, .string f, .slice none 0 0] w fun e w' => e = .returned (.pointer (some ⟨w.heap.size, 0, none⟩)) ∧
      w' = (w.alloc (.cells #[.string ⟨#[]⟩, .int .i64 line, .string (txt F f)] 32)).drew := by
  rcases printed_zero f with hp | hp
  · have hr := run_none F f w hF hp
    clear hF hp
    go_enter Tryf.func9, Tryf.ntmps9
    go_wp2
    go_ret
    exact ⟨rfl, rfl⟩
  · have hr := run_some f w hp
    have hb := run_begun F f w hF
    clear hF hp
    go_enter Tryf.func9, Tryf.ntmps9
    go_wp2
    refine rows_value nextTurns hb ?_
    go_wp2
    go_ret
    exact ⟨rfl, rfl⟩

theorem zzErrorf_any (F : Interp) (d : Value) (line : Int) (f : ByteArray) (w : World) (hF : F.answers w.tape) :
    Calls Tryf.prog 8 #[d, .int .i64 line, .string f] w fun e w' => e = .returned (.pointer (some ⟨w.heap.size, 0, none⟩)) ∧
      w' = (w.alloc (.cells #[.string ⟨#[]⟩, .int .i64 line, .string (txt F f)] 32)).drew := by
  have hc := errorf_any F d line f w hF
  have HC : Hid (Calls _ _ _ _ _) := hc
  clear hc hF
  go_enter Tryf.func8, Tryf.ntmps8
  go_wp2_with fail
  refine HC.out.mono ?_
  rintro e w' ⟨rfl, rfl⟩
  go_wp2_with fail
  go_ret
  exact ⟨rfl, rfl⟩

theorem newDoc_any (a b : Option Addr) (m1 c1 m2 c2 : Nat) (w : World) :
    Calls Tryf.prog 7 #[.slice a m1 c1, .slice b m2 c2] w fun e w' => e = .returned (.pointer (some ⟨w.heap.size, 0, none⟩)) ∧
      w' = w.alloc (.cells #[.slice a m1 c1, .slice b m2 c2] 34) := by
  go_enter Tryf.func7, Tryf.ntmps7
  go_wp2
  go_ret
  exact ⟨rfl, rfl⟩

/-! ### zzBytes -/
theorem bytes_yes (a b : Option Addr) (m1 c1 m2 c2 : Nat) (x : Int) (f : ByteArray) (w : World) (h : m1 + m2 + f.size ≤ 1048576) :
    Calls Tryf.prog 4 #[.slice a m1 c1, .slice b m2 c2, .int .i64 x, .string f] w fun e w' => e = .returned (.bool true) ∧ w' = w := by
  go_enter Tryf.func4, Tryf.ntmps4
  go_wp2
  go_ret
  exact ⟨rfl, rfl⟩
theorem bytes_no (a b : Option Addr) (m1 c1 m2 c2 : Nat) (x : Int) (f : ByteArray) (w : World) (h : ¬ m1 + m2 + f.size ≤ 1048576) :
    Calls Tryf.prog 4 #[.slice a m1 c1, .slice b m2 c2, .int .i64 x, .string f] w fun e w' => e = .returned (.bool false) ∧ w' = w := by
  by_cases h1 : m1 ≤ 1048576
  · by_cases h2 : m2 ≤ 1048576
    · by_cases h3 : m1 + m2 ≤ 1048576
      · by_cases h4 : f.size ≤ 1048576
        all_goals
          go_enter Tryf.func4, Tryf.ntmps4
          go_wp2
          go_ret
          exact ⟨rfl, rfl⟩
      · go_enter Tryf.func4, Tryf.ntmps4
        go_wp2
        go_ret
        exact ⟨rfl, rfl⟩
    · go_enter Tryf.func4, Tryf.ntmps4
      go_wp2
      go_ret
      exact ⟨rfl, rfl⟩
  · go_enter Tryf.func4, Tryf.ntmps4
    go_wp2
    go_ret
    exact ⟨rfl, rfl⟩
end Go.Proofs.Qxb6612352aFmt
