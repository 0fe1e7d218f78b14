import Derived.Test.Qxb6614061aParts
import Derived.Maps.OwnOps
import Derived.Maps.Views
set_option linter.unusedVariables false
set_option linter.unusedSimpArgs false
namespace Go.Proofs.Qxb6614061a
open Go.RowKit Go.Maps Go.WideMaps

/-- How a 'selectedKey' reads: whether it matches. -/
def selR (v : Value) : Option (DataW Unit × List MemPlace) :=
  match v with
  | .agg xs => match xs.toList with
    | [.string _, .bool b] => some (.lit (.bool b), [])
    | _ => .none
  | _ => .none

theorem selR_mk (s : ByteArray) (b : Bool) : selR (.agg #[.string s, .bool b]) = some (.lit (.bool b), []) := rfl

theorem selR_inv {v : Value} {b : Bool} {ps : List MemPlace} (h : selR v = some (.lit (.bool b), ps)) : ∃ s, v = .agg #[.string s, .bool b] := by
  unfold selR at h
  split at h
  · rename_i xs
    split at h
    · rename_i s b' hx
      simp only [Option.some.injEq, Prod.mk.injEq, DataW.lit.injEq, Lit.bool.injEq] at h
      obtain ⟨rfl, _⟩ := h
      refine ⟨s, ?_⟩
      obtain ⟨l⟩ := xs
      simp only at hx
      subst hx
      rfl
    · cases h
  · cases h

/-- Is s among the first k? -/
def inPre (S : Nat → ByteArray) (k : Nat) (s : ByteArray) : Bool := (List.range k).any (fun j => decide (S j = s))

theorem inPre_succ (S : Nat → ByteArray) (k : Nat) (s : ByteArray) : inPre S (k + 1) s = (inPre S k s || decide (S k = s)) := by
  simp [inPre, List.range_succ]

/-- Block m is a map that tells which strings are among the first k. -/
def SelMap (w : World) (m : Nat) (S : Nat → ByteArray) (k : Nat) : Prop :=
  ∃ D : DataW Unit, w.ownsMap Try.prog 9 selR m k D ∧ IsMap D ∧ ∀ s : ByteArray, D.atKey (.string s.data.toList) (.lit (.bool false)) = .lit (.bool (inPre S k s))

theorem SelMap.of_block {w w' : World} {m k : Nat} {S : Nat → ByteArray} (h : SelMap w m S k) (e : w'.heap[m]? = w.heap[m]?) : SelMap w' m S k := by
  obtain ⟨D, ⟨es, clock, hb, hr⟩, h2, h3⟩ := h
  exact ⟨D, ⟨es, clock, e.trans hb, hr⟩, h2, h3⟩

theorem SelMap.lt {w : World} {m k : Nat} {S : Nat → ByteArray} (h : SelMap w m S k) : m < w.heap.size := by
  obtain ⟨D, h1, _⟩ := h
  exact h1.lt

theorem selMap_made (w : World) (S : Nat → ByteArray) : SelMap (w.alloc (.map #[] 0)) w.heap.size S 0 :=
  ⟨.map [], World.ownsMap_made w Try.prog 9 selR, isMap_empty, fun s => rfl⟩

theorem law : Keyed Try.prog 9 := string_keyed Try.underlying9

theorem str_inj {a b : ByteArray} (h : a.data.toList = b.data.toList) : a = b := by
  cases a; cases b; simp at h; simp [h]

theorem SelMap.update {w : World} {m k : Nat} {S : Nat → ByteArray} (h : SelMap w m S k) (hk : k < maxLen) (hs : (S k).size ≤ maxLen) :
    ∃ w', (Instr.mapUpdate 42 (.map (some m)) (.string (S k)) (.agg #[.string (S k), .bool true])).run Try.prog w = .ok () w' ∧ SelMap w' m S (k + 1) ∧ w.grownBy w' (some m) := by
  obtain ⟨D, hown, hD, hat⟩ := h
  obtain ⟨w', hrun, hown', hg⟩ := hown.update law Try.underlying42 hk (keyOf_string_mk Try.underlying9 hs) (selR_mk (S k) true)
  refine ⟨w', hrun, ⟨_, hown', hD.put _ _, fun s => ?_⟩, hg⟩
  rw [inPre_succ]
  by_cases e : S k = s
  · subst e
    rw [atKey_put_same hD (show WideAt.IsKeyLit (Lit.string (S k).data.toList) from trivial)]
    simp
  · have hne : Lit.string s.data.toList ≠ Lit.string (S k).data.toList := fun h' => e (str_inj (Lit.string.inj h').symm)
    rw [atKey_put_other hne, hat s]
    simp [e]

theorem zero44 (w : World) : (zeroValue 44).run Try.prog w = .ok (.agg #[.string ByteArray.empty, .bool false]) w := by kernel_rfl

theorem SelMap.look {w : World} {m k : Nat} {S : Nat → ByteArray} (h : SelMap w m S k) (s : ByteArray) (hs : s.size ≤ maxLen) :
    ∃ x, (Instr.lookup 42 (.map (some m)) (.string s) false).run Try.prog w = .ok (.agg #[.string x, .bool (inPre S k s)]) w := by
  obtain ⟨D, hown, hD, hat⟩ := h
  obtain ⟨v, ps, hrun, hv⟩ := hown.lookup law Try.underlying42 (zero44 w) (selR_mk ByteArray.empty false) (keyOf_string_mk Try.underlying9 hs)
  rw [hat s] at hv
  obtain ⟨x, rfl⟩ := selR_inv hv
  exact ⟨x, hrun⟩

end Go.Proofs.Qxb6614061a
