import Derived.Test.Qxb6613936aLeaf
set_option linter.unusedVariables false
set_option linter.unusedSimpArgs false
namespace Go.Proofs.Qxb6613936a
open Go.RowKit

abbrev P1 (b : Nat) : Value := .pointer (some ⟨b, 0, .none⟩)

set_option maxHeartbeats 400000 in
/-- at = nil, the queue is empty. -/
theorem ins_a (q b : Nat) (w : World) (p0 n0 l0 : Value) (hqb : q ≠ b)
    (c3 : w.cell? ⟨b, 3, .none⟩ = some p0) (c4 : w.cell? ⟨b, 4, .none⟩ = some n0) (cq0 : w.cell? ⟨q, 0, .none⟩ = some (.pointer .none)) (cq1 : w.cell? ⟨q, 1, .none⟩ = some l0)
    (f3 : w.frozen? ⟨b, 3, .none⟩ = false) (f4 : w.frozen? ⟨b, 4, .none⟩ = false) (fq0 : w.frozen? ⟨q, 0, .none⟩ = false) (fq1 : w.frozen? ⟨q, 1, .none⟩ = false) :
    Calls Try.prog 8 #[P1 q, .pointer .none, P1 b] w fun e w' => e = .returned (.tuple #[]) ∧
      w' = (((w.setCell ⟨b, 3, .none⟩ (.pointer .none)).setCell ⟨b, 4, .none⟩ (.pointer .none)).setCell ⟨q, 0, .none⟩ (P1 b)).setCell ⟨q, 1, .none⟩ (P1 b) := by
  go_enter Try.func8, Try.ntmps8
  go_wp2
  go_end0
  go_wp2
  go_end0
  exact ⟨rfl, rfl⟩

set_option maxHeartbeats 400000 in
/-- at = nil, the queue's first waiter lies in block x. -/
theorem ins_b (q b x : Nat) (w : World) (p0 n0 xp : Value) (hqb : q ≠ b) (hqx : q ≠ x) (hbx : b ≠ x)
    (c3 : w.cell? ⟨b, 3, .none⟩ = some p0) (c4 : w.cell? ⟨b, 4, .none⟩ = some n0) (cq0 : w.cell? ⟨q, 0, .none⟩ = some (P1 x)) (cx3 : w.cell? ⟨x, 3, .none⟩ = some xp)
    (f3 : w.frozen? ⟨b, 3, .none⟩ = false) (f4 : w.frozen? ⟨b, 4, .none⟩ = false) (fq0 : w.frozen? ⟨q, 0, .none⟩ = false) (fx3 : w.frozen? ⟨x, 3, .none⟩ = false) :
    Calls Try.prog 8 #[P1 q, .pointer .none, P1 b] w fun e w' => e = .returned (.tuple #[]) ∧
      w' = (((w.setCell ⟨b, 3, .none⟩ (.pointer .none)).setCell ⟨b, 4, .none⟩ (P1 x)).setCell ⟨q, 0, .none⟩ (P1 b)).setCell ⟨x, 3, .none⟩ (P1 b) := by
  go_enter Try.func8, Try.ntmps8
  go_wp2
  go_end0
  go_wp2
  go_end0
  exact ⟨rfl, rfl⟩

set_option maxHeartbeats 400000 in
/-- at is the waiter in block a, the last one. -/
theorem ins_c (q b a : Nat) (w : World) (p0 n0 l0 : Value) (hqb : q ≠ b) (hqa : q ≠ a) (hba : b ≠ a)
    (c3 : w.cell? ⟨b, 3, .none⟩ = some p0) (c4 : w.cell? ⟨b, 4, .none⟩ = some n0) (ca : w.cell? ⟨a, 4, .none⟩ = some (.pointer .none)) (cq1 : w.cell? ⟨q, 1, .none⟩ = some l0)
    (f3 : w.frozen? ⟨b, 3, .none⟩ = false) (f4 : w.frozen? ⟨b, 4, .none⟩ = false) (fa : w.frozen? ⟨a, 4, .none⟩ = false) (fq1 : w.frozen? ⟨q, 1, .none⟩ = false) :
    Calls Try.prog 8 #[P1 q, P1 a, P1 b] w fun e w' => e = .returned (.tuple #[]) ∧
      w' = (((w.setCell ⟨b, 3, .none⟩ (P1 a)).setCell ⟨b, 4, .none⟩ (.pointer .none)).setCell ⟨a, 4, .none⟩ (P1 b)).setCell ⟨q, 1, .none⟩ (P1 b) := by
  go_enter Try.func8, Try.ntmps8
  go_wp2
  go_end0
  go_wp2
  go_end0
  exact ⟨rfl, rfl⟩

set_option maxHeartbeats 400000 in
/-- at is the waiter in block a, behind it comes that in block x. -/
theorem ins_d (q b a x : Nat) (w : World) (p0 n0 xp : Value) (hqb : q ≠ b) (hqa : q ≠ a) (hba : b ≠ a) (hbx : b ≠ x) (hax : a ≠ x)
    (c3 : w.cell? ⟨b, 3, .none⟩ = some p0) (c4 : w.cell? ⟨b, 4, .none⟩ = some n0) (ca : w.cell? ⟨a, 4, .none⟩ = some (P1 x)) (cx3 : w.cell? ⟨x, 3, .none⟩ = some xp)
    (f3 : w.frozen? ⟨b, 3, .none⟩ = false) (f4 : w.frozen? ⟨b, 4, .none⟩ = false) (fa : w.frozen? ⟨a, 4, .none⟩ = false) (fx3 : w.frozen? ⟨x, 3, .none⟩ = false) :
    Calls Try.prog 8 #[P1 q, P1 a, P1 b] w fun e w' => e = .returned (.tuple #[]) ∧
      w' = (((w.setCell ⟨b, 3, .none⟩ (P1 a)).setCell ⟨b, 4, .none⟩ (P1 x)).setCell ⟨a, 4, .none⟩ (P1 b)).setCell ⟨x, 3, .none⟩ (P1 b) := by
  go_enter Try.func8, Try.ntmps8
  go_wp2
  go_end0
  go_wp2
  go_end0
  exact ⟨rfl, rfl⟩

end Go.Proofs.Qxb6613936a
