import Derived.Test.Qxb6614061aSel
set_option linter.unusedVariables false
set_option linter.unusedSimpArgs false
namespace Go.Proofs.Qxb6614061a
open Go.RowKit

/-- The value of a selection's 'keys' field: nil where the set is nil; else a map of the set. -/
def SelOk (w : World) (v : Value) (a : Option Addr) (n : Nat) (S : Nat → ByteArray) : Prop :=
  (v = .map .none ∧ a = .none ∧ n = 0) ∨ ∃ m, v = .map (some m) ∧ SelMap w m S n

abbrev LIT (s : ByteArray) : Value := .iface 55 (.agg #[.string s])
abbrev ALL : Value := .iface 51 (.agg #[])

/-- It returned a pair whose second limb is r. -/
def IsPair (r : Bool) (e : Ending) : Prop := ∃ x, e = .returned (.tuple #[.string x, .bool r])

theorem assertLit (s : ByteArray) (w : World) : (Instr.typeAssert (LIT s) 53 55 true).run Try.prog w = .ok (.tuple #[.agg #[.string s], .bool true]) w := by
  simp [Instr.typeAssert, run_underlying Try.underlying55]

theorem lookNil (s : ByteArray) (hs : s.size ≤ maxLen) (w : World) : (Instr.lookup 42 (.map .none) (.string s) false).run Try.prog w = .ok (.agg #[.string ByteArray.empty, .bool false]) w := by
  exact Go.Maps.look_nil false law Try.underlying42 (zero44 w) (Go.WideMaps.keyOf_string_mk Try.underlying9 hs)

set_option maxHeartbeats 1000000 in
theorem match_nil (s : ByteArray) (hs : s.size ≤ maxLen) (w : World) :
    Calls Try.prog 18 #[.agg #[.nilIface, .map .none], LIT s] w fun e w' => IsPair false e ∧ Below w.heap.size w w' := by
  have ha := assertLit s
  have hl := lookNil s hs
  go_enter Try.func18, Try.ntmps18
  go_wp2_with fail
  go_quiet (fail)
  go_wp2_with fail
  go_ret2
  exact ⟨⟨_, rfl⟩, (((((Below.refl _ w).alloc (Nat.le_refl _) _).alloc (by simp) _).alloc (by simp; omega) _).trans ⟨rfl, rfl, rfl, Nat.le_refl _, fun _ _ => rfl⟩)⟩

set_option maxHeartbeats 1000000 in
theorem match_map (s : ByteArray) (hs : s.size ≤ maxLen) (w : World) (m n : Nat) (S : Nat → ByteArray) (hM : SelMap w m S n) :
    Calls Try.prog 18 #[.agg #[.nilIface, .map (some m)], LIT s] w fun e w' => IsPair (inPre S n s) e ∧ Below w.heap.size w w' := by
  have ha := assertLit s
  have hlt := hM.lt
  have hM2 : SelMap ((w.alloc (Obj.cells #[Value.nilIface, Value.map (some m)] 48)).alloc (Obj.cells #[Value.string s] 55)) m S n :=
    hM.of_block ((Below.heap_alloc _ _ _ (by simp; omega)).trans (Below.heap_alloc _ _ _ hlt))
  obtain ⟨x, hl⟩ := hM2.look s hs
  generalize inPre S n s = r at hl ⊢
  clear hM2 hM
  go_enter Try.func18, Try.ntmps18
  go_wp2_with fail
  go_quiet (fail)
  go_wp2_with fail
  go_ret2
  exact ⟨⟨_, rfl⟩, (((((Below.refl _ w).alloc (Nat.le_refl _) _).alloc (by simp) _).alloc (by simp; omega) _).trans ⟨rfl, rfl, rfl, Nat.le_refl _, fun _ _ => rfl⟩)⟩

end Go.Proofs.Qxb6614061a
