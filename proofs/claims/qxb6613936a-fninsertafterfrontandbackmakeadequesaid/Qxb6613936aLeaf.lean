import Derived.Test.Qxb6613936aRows
import Derived.WalkKit
import Derived.WalkSpells
import Derived.Deep.OwnRows
set_option linter.unusedVariables false
set_option linter.unusedSimpArgs false
namespace Go.Proofs.Qxb6613936a
open Go.RowKit

/-- A pointer to waiter 'j' (the waiters lie in the blocks from 'B' on), or nil. -/
def pt (B : Nat) : Option Nat → Value
  | .none => .pointer .none
  | .some j => .pointer (some ⟨B + j, 0, .none⟩)

/-- The cells of waiter number j. -/
def wcell (j : Nat) (p n : Value) : Nat → Value := fun k =>
  if k = 0 then .int .i64 0 else if k = 1 then .int .u64 ((j : Int) + 1) else if k = 2 then .pointer .none else if k = 3 then p else if k = 4 then n else .chan .none

theorem bytes1 (a : Option Addr) (l c : Nat) (w : World) (h : l ≤ 1048576) :
    Calls Try.prog 5 #[.slice a l c] w fun e w' => e = .returned (.bool true) ∧ w' = w := by
  go_enter Try.func5, Try.ntmps5
  go_wp2
  go_ret
  exact ⟨rfl, rfl⟩

theorem bytes1_no (a : Option Addr) (l c : Nat) (w : World) (h : 1048576 < l) :
    Calls Try.prog 5 #[.slice a l c] w fun e w' => e = .returned (.bool false) ∧ w' = w := by
  go_enter Try.func5, Try.ntmps5
  go_wp2
  go_ret
  exact ⟨rfl, rfl⟩

theorem newQ (w : World) :
    Calls Try.prog 6 #[] w fun e w' => e = .returned (.pointer (some ⟨w.heap.size, 0, .none⟩)) ∧ w' = w.alloc (.cells #[.pointer .none, .pointer .none] 37) := by
  go_enter Try.func6, Try.ntmps6
  go_wp2
  go_ret
  exact ⟨rfl, rfl⟩

theorem newW (s : Int) (w : World) :
    Calls Try.prog 7 #[.int .u64 s] w fun e w' => e = .returned (.pointer (some ⟨w.heap.size, 0, .none⟩)) ∧ w' = w.alloc (.cells #[.int .i64 0, .int .u64 s, .pointer .none, .pointer .none, .pointer .none, .chan .none] 42) := by
  go_enter Try.func7, Try.ntmps7
  go_wp2
  go_ret
  exact ⟨rfl, rfl⟩

theorem last_of (b : Nat) (v : Value) (w : World) (h : w.cell? ⟨b, 1, .none⟩ = some v) :
    Calls Try.prog 11 #[.pointer (some ⟨b, 0, .none⟩)] w fun e w' => e = .returned v ∧ w' = w := by
  go_enter Try.func11, Try.ntmps11
  go_wp2
  go_ret
  exact ⟨rfl, rfl⟩

theorem first_of (b : Nat) (v : Value) (w : World) (h : w.cell? ⟨b, 0, .none⟩ = some v) :
    Calls Try.prog 13 #[.pointer (some ⟨b, 0, .none⟩)] w fun e w' => e = .returned v ∧ w' = w := by
  go_enter Try.func13, Try.ntmps13
  go_wp2
  go_ret
  exact ⟨rfl, rfl⟩

theorem seq_of (b : Nat) (v : Value) (w : World) (h : w.cell? ⟨b, 1, .none⟩ = some v) :
    Calls Try.prog 14 #[.pointer (some ⟨b, 0, .none⟩)] w fun e w' => e = .returned v ∧ w' = w := by
  go_enter Try.func14, Try.ntmps14
  go_wp2
  go_ret
  exact ⟨rfl, rfl⟩

theorem prev_of (b : Nat) (v : Value) (w : World) (h : w.cell? ⟨b, 3, .none⟩ = some v) :
    Calls Try.prog 15 #[.pointer (some ⟨b, 0, .none⟩)] w fun e w' => e = .returned v ∧ w' = w := by
  go_enter Try.func15, Try.ntmps15
  go_wp2
  go_ret
  exact ⟨rfl, rfl⟩

theorem next_of (b : Nat) (v : Value) (w : World) (h : w.cell? ⟨b, 4, .none⟩ = some v) :
    Calls Try.prog 16 #[.pointer (some ⟨b, 0, .none⟩)] w fun e w' => e = .returned v ∧ w' = w := by
  go_enter Try.func16, Try.ntmps16
  go_wp2
  go_ret
  exact ⟨rfl, rfl⟩

end Go.Proofs.Qxb6613936a
