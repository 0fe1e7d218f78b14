import Derived.Test.Qxb6614061aMatch
set_option linter.unusedVariables false
set_option linter.unusedSimpArgs false
namespace Go.Proofs.Qxb6614061a
open Go.RowKit

theorem match_any (s : ByteArray) (hs : s.size ≤ maxLen) (w : World) (x : Value) (a : Option Addr) (n : Nat) (S : Nat → ByteArray) (h : SelOk w x a n S) :
    Calls Try.prog 18 #[.agg #[.nilIface, x], LIT s] w fun e w' => IsPair (inPre S n s) e ∧ Below w.heap.size w w' := by
  rcases h with ⟨rfl, _, rfl⟩ | ⟨m, rfl, hM⟩
  · exact match_nil s hs w
  · exact match_map s hs w m n S hM

theorem eqIn_all (d : Nat) (w : World) : (Op.equalIn (d + 2) 53 ALL ALL).run Try.prog w = .ok true w := by
  obtain ⟨j, hj⟩ := Option.isSome_iff_exists.1 (show (Try.prog.info? 51).isSome = true by kernel_rfl)
  have hc : j.comparable = true := by
    have : (Try.prog.info? 51).map (·.comparable) = some true := by kernel_rfl
    rw [hj] at this; simpa using this
  have hst : Try.prog.stoodInHeld 51 = false := by kernel_rfl
  simp [Op.equalIn, run_underlying Try.underlying53, run_underlying Try.underlying51, typeInfo, hj, hc, hst]

theorem eqIn_lit (s : ByteArray) (d : Nat) (w : World) : (Op.equalIn (d + 2) 53 (LIT s) ALL).run Try.prog w = .ok false w := by
  simp [Op.equalIn, run_underlying Try.underlying53]

theorem eql_all (w : World) : (binOp .eql 53 ALL ALL).run Try.prog w = .ok (.bool true) w := by
  simp only [binOp]
  simp [Op.equal, Op.maxDepth, eqIn_all 9998 w]

theorem eql_lit (s : ByteArray) (w : World) : (binOp .eql 53 (LIT s) ALL).run Try.prog w = .ok (.bool false) w := by
  simp only [binOp]
  simp [Op.equal, Op.maxDepth, eqIn_lit s 9998 w]

end Go.Proofs.Qxb6614061a
