import Derived.Test.Qxb6614206aRows
import Derived.WalkKit
import Derived.WalkSpells
import Derived.Deep.OwnRows
import Derived.Deep.LoopGhost
import Derived.Deep.QuietTactic
import Derived.BigQuiet
set_option linter.unusedVariables false
set_option linter.unusedSimpArgs false
namespace Go.Proofs.Qxb6614206a
open Go.RowKit

theorem hide {p : Prop} (h : p) : Hid p := h
theorem unhide {p : Prop} (h : Hid p) : p := h

/-- An edge. -/
structure Ed where
  id : ByteArray
  src : ByteArray
  dst : ByteArray
  err : Bool

/-- Its cells. -/
def edc (e : Ed) : List Value := [.string e.id, .string e.src, .string e.dst, .bool e.err]

/-- A slice of edges in memory. -/
def EL (w : World) (a : Option Addr) (l : List Ed) : Prop :=
  ∀ (i : Nat) (e : Ed), l[i]? = some e → ∃ b off, a = some ⟨b, off, .none⟩ ∧ b < w.heap.size ∧ w.cell? ⟨b, off + i * 4, .none⟩ = some (.string e.id) ∧ w.cell? ⟨b, off + i * 4 + 1, .none⟩ = some (.string e.src) ∧
    w.cell? ⟨b, off + i * 4 + 2, .none⟩ = some (.string e.dst) ∧ w.cell? ⟨b, off + i * 4 + 3, .none⟩ = some (.bool e.err)

theorem EL.nil (w : World) (a : Option Addr) : EL w a [] := fun i e h => by simp at h

theorem EL.mono {w w' : World} {a : Option Addr} {l : List Ed} (h : EL w a l) (hB : Below w.heap.size w w') : EL w' a l := by
  intro i e he
  obtain ⟨b, off, h1, h2, h3, h4, h5, h6⟩ := h i e he
  exact ⟨b, off, h1, Nat.lt_of_lt_of_le h2 hB.size, (hB.cell h2).trans h3, (hB.cell h2).trans h4, (hB.cell h2).trans h5, (hB.cell h2).trans h6⟩

theorem EL.take {w : World} {a : Option Addr} {l : List Ed} (h : EL w a l) (k : Nat) : EL w a (l.take k) := by
  intro i e he
  rw [List.getElem?_take] at he
  split at he
  · exact h i e he
  · cases he

theorem EL.drop {w : World} {b off : Nat} {l : List Ed} (h : EL w (some ⟨b, off, .none⟩) l) (k : Nat) : EL w (some ⟨b, off + k * 4, .none⟩) (l.drop k) := by
  intro i e he
  rw [List.getElem?_drop] at he
  obtain ⟨b', off', h1, h2, h3, h4, h5, h6⟩ := h _ e he
  simp only [Option.some.injEq, Addr.mk.injEq] at h1
  obtain ⟨rfl, rfl, _⟩ := h1
  have e0 : off + k * 4 + i * 4 = off + (k + i) * 4 := by omega
  exact ⟨b, off + k * 4, rfl, h2, by rw [e0]; exact h3, by rw [e0]; exact h4, by rw [e0]; exact h5, by rw [e0]; exact h6⟩

theorem edc_len (l : List Ed) : (l.flatMap edc).length = l.length * 4 := by
  induction l with
  | nil => rfl
  | cons a l ih => simp [edc, ih] at *; omega

theorem edc_get : ∀ (l : List Ed) (j : Nat) (u : Value), (l.flatMap edc)[j]? = some u → ∃ e, l[j / 4]? = some e ∧ (edc e)[j % 4]? = some u
  | [], j, u, h => by simp at h
  | a :: l, j, u, h => by
    rw [List.flatMap_cons] at h
    by_cases hj : j < 4
    · rw [List.getElem?_append_left (by simpa [edc] using hj)] at h
      refine ⟨a, by rw [show j / 4 = 0 by omega]; rfl, by rw [show j % 4 = j by omega]; exact h⟩
    · rw [List.getElem?_append_right (by simp [edc]; omega)] at h
      have h' : (l.flatMap edc)[j - 4]? = some u := by simpa [edc] using h
      obtain ⟨e, h1, h2⟩ := edc_get l (j - 4) u h'
      refine ⟨e, ?_, by rw [show j % 4 = (j - 4) % 4 by omega]; exact h2⟩
      rw [show j / 4 = (j - 4) / 4 + 1 by omega, List.getElem?_cons_succ]
      exact h1

theorem edc_at : ∀ (l : List Ed) (i f : Nat) (e : Ed) (u : Value), l[i]? = some e → f < 4 → (edc e)[f]? = some u → (l.flatMap edc)[i * 4 + f]? = some u
  | [], i, f, e, u, h, _, _ => by simp at h
  | a :: l, 0, f, e, u, h, hf, hu => by
    simp at h
    subst h
    rw [List.flatMap_cons, List.getElem?_append_left (by simp [edc]; omega)]
    simpa using hu
  | a :: l, i + 1, f, e, u, h, hf, hu => by
    rw [List.getElem?_cons_succ] at h
    have ih := edc_at l i f e u h hf hu
    rw [List.flatMap_cons, List.getElem?_append_right (by simp [edc]; omega)]
    rw [show (i + 1) * 4 + f - (edc a).length = i * 4 + f by simp [edc]; omega]
    exact ih

theorem edc_one (l : List Ed) : ∀ u ∈ l.flatMap edc, u.oneCell' = true := by
  intro u hu
  obtain ⟨e, _, hu⟩ := List.mem_flatMap.1 hu
  simp [edc] at hu
  rcases hu with rfl | rfl | rfl | rfl <;> rfl

/-- A slice that the call itself has laid. -/
def Own (w : World) (base : Nat) (v : Value) (l : List Ed) : Prop := w.ownsRow base 28 4 v l.length (l.flatMap edc)

theorem Own.open {w : World} {base : Nat} {v : Value} {l : List Ed} (h : Own w base v l) :
    (v = .slice .none 0 0 ∧ l = []) ∨ ∃ g cap, v = .slice (some ⟨g, 0, .none⟩) l.length cap ∧ base ≤ g ∧ g < w.heap.size ∧ l.length ≤ cap ∧ cap ≤ maxLen ∧ EL w (some ⟨g, 0, .none⟩) l := by
  obtain ⟨h1, h2 | ⟨g, cap, cur, hv, hg, hh, hc, hm, hs, ht⟩⟩ := h
  · exact .inl ⟨h2.1, List.length_eq_zero_iff.1 h2.2⟩
  · refine .inr ⟨g, cap, hv, hg, (Array.getElem?_eq_some_iff.1 hh).1, hc, hm, ?_⟩
    have key : ∀ (i f : Nat) (e : Ed) (u : Value), l[i]? = some e → f < 4 → (edc e)[f]? = some u → w.cell? ⟨g, i * 4 + f, .none⟩ = some u := by
      intro i f e u he hf hu
      have h3 := edc_at l i f e u he hf hu
      rw [← ht, List.getElem?_take] at h3
      split at h3
      · simpa [World.cell?, hh] using h3
      · cases h3
    intro i e he
    refine ⟨g, 0, rfl, (Array.getElem?_eq_some_iff.1 hh).1, ?_, ?_, ?_, ?_⟩
    · rw [Nat.zero_add]; exact key i 0 e _ he (by omega) rfl
    · rw [Nat.zero_add]; exact key i 1 e _ he (by omega) rfl
    · rw [Nat.zero_add]; exact key i 2 e _ he (by omega) rfl
    · rw [Nat.zero_add]; exact key i 3 e _ he (by omega) rfl

theorem EL.src {w : World} {b off : Nat} {l : List Ed} (h : EL w (some ⟨b, off, .none⟩) l) : ∀ j u, (l.flatMap edc)[j]? = some u → w.cell? ((⟨b, off, .none⟩ : Addr).add j) = some u := by
  intro j u hu
  obtain ⟨e, he, hf⟩ := edc_get l j u hu
  obtain ⟨b', off', h1, h2, h3, h4, h5, h6⟩ := h _ e he
  simp only [Option.some.injEq, Addr.mk.injEq] at h1
  obtain ⟨rfl, rfl, _⟩ := h1
  rw [Go.WideShapes.add_plain]
  have hj : j = j / 4 * 4 + j % 4 := by omega
  have hlt : j % 4 < 4 := Nat.mod_lt _ (by omega)
  generalize j / 4 = q at *
  generalize j % 4 = r at *
  subst hj
  rcases (show r = 0 ∨ r = 1 ∨ r = 2 ∨ r = 3 by omega) with rfl | rfl | rfl | rfl
  · simp [edc] at hf; subst hf; simpa using h3
  · simp [edc] at hf; subst hf; rw [← Nat.add_assoc]; exact h4
  · simp [edc] at hf; subst hf; rw [← Nat.add_assoc]; exact h5
  · simp [edc] at hf; subst hf; rw [← Nat.add_assoc]; exact h6

theorem Try.info28 : (Try.prog.info? 28).map (fun i => (i.zero, i.size, i.bytes)) = some (some (.agg #[.string ByteArray.empty, .string ByteArray.empty, .string ByteArray.empty, .bool false]), 4, 56) := by kernel_rfl

/-- 'append(s, x...)'. -/
theorem run_app (w : World) (base : Nat) (v : Value) (l1 l2 : List Ed) (a : Option Addr) (c : Nat) (hown : Own w base v l1) (hsrc : EL w a l2) (hpl : a = .none ∨ ∃ b off, a = some ⟨b, off, .none⟩) (hnil : a = .none → l2 = []) (hlen : l1.length + l2.length ≤ 1048576) (hbase : base ≤ w.heap.size) (ty : TypeId) :
    ∃ v' w', (Builtin.append_ #[25, 25] ty #[v, .slice a l2.length c]).run Try.prog w = .ok v' w' ∧ Own w' base v' (l1 ++ l2) ∧ w.grownBy w' v.ownBlock := by
  obtain ⟨i, hi, hz⟩ := Option.map_eq_some_iff.1 Try.info28
  simp only [Prod.mk.injEq] at hz
  obtain ⟨z1, z2, z3⟩ := hz
  rcases hpl with rfl | ⟨b, off, rfl⟩
  · have hl2 := hnil rfl
    subst hl2
    refine ⟨v, w, ?_, by simpa using hown, ⟨rfl, rfl, rfl, Nat.le_refl _, fun _ _ _ => rfl⟩⟩
    rcases hown.open with ⟨rfl, rfl⟩ | ⟨g, cap, rfl, _, _, hc, _, _⟩
    · simp [Builtin.append_, run_underlying Try.underlying25, sizeOf, typeInfo, hi, Builtin.lenOf, Builtin.firstCells]
    · simp [Builtin.append_, run_underlying Try.underlying25, sizeOf, typeInfo, hi, Builtin.lenOf, Builtin.firstCells, hc, storeCells]
  · obtain ⟨v', w', hrun, ho, hg, _⟩ := run_append_own (P := Try.prog) w base 25 ty 28 i _ 4 56 Try.underlying25 hi z1 z2 z3 rfl (by omega) v l1.length (l1.flatMap edc) hown ⟨b, off, .none⟩ l2.length c (l2.flatMap edc) (edc_len l2) hsrc.src (edc_one l2) (by unfold maxLen; omega) (by omega) hbase
    refine ⟨v', w', hrun, ?_, hg⟩
    unfold Own
    rw [List.length_append, List.flatMap_append]
    exact ho

end Go.Proofs.Qxb6614206a
