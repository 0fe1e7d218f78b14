import Derived.Test.Qxb6614206aFmtOut
set_option linter.unusedVariables false
set_option linter.unusedSimpArgs false
namespace Go.Proofs.Qxb6614206aFmt
open Go.RowKit

theorem Tryf.info85 : (Tryf.prog.info? 85).map (fun i => (i.zero, i.size, i.bytes)) = some (some (.agg #[.string ByteArray.empty, .int .i64 0]), 2, 24) := by kernel_rfl

theorem add_zero (a : Addr) : a.add 0 = a := by simp [Addr.add]

/-- 'path[:k]'. -/
theorem slice83 (a : Option Addr) (n cap k : Nat) (hk : k ≤ cap) (W : World) : (Instr.slice 83 (.slice a n cap) .none (some (.int .i64 (k : Int))) .none).run Tryf.prog W = .ok (.slice a k cap) W := by
  obtain ⟨i, hi, hz⟩ := Option.map_eq_some_iff.1 Tryf.info85
  simp only [Prod.mk.injEq] at hz
  obtain ⟨z1, z2, z3⟩ := hz
  have hb : (Instr.sliceBound (.int .i64 (k : Int)) cap .sliceAcap).run Tryf.prog W = .ok k W := by
    have := run_sliceBound (P := Tryf.prog) W .i64 (k : Int) cap .sliceAcap (by omega) (by omega)
    simpa using this
  simp [Instr.slice, run_underlying Tryf.underlying83, Instr.sliceBounds, hb, sizeOf, typeInfo, hi, z2]
  intro _
  cases a
  · rfl
  · simp [add_zero]

def stc (p : ByteArray × Nat) : List Value := [.string p.1, .int .i64 (p.2 : Int)]

theorem stc_len (l : List (ByteArray × Nat)) : (l.flatMap stc).length = l.length * 2 := by
  induction l with
  | nil => rfl
  | cons a l ih => simp [stc, ih] at *; omega

/-- The path, in memory: its bottom first. -/
def PathAt (w : World) (base : Nat) (v : Value) (st : List (ByteArray × Nat)) : Prop := w.ownsRow base 85 2 v st.length (st.reverse.flatMap stc)

theorem path_cells (x : ByteArray) (j : Nat) (rest : List (ByteArray × Nat)) : ((x, j) :: rest).reverse.flatMap stc = rest.reverse.flatMap stc ++ [.string x, .int .i64 (j : Int)] := by
  simp [stc]

theorem PathAt.top {w : World} {base : Nat} {v : Value} {x : ByteArray} {j : Nat} {rest : List (ByteArray × Nat)} (h : PathAt w base v ((x, j) :: rest)) :
    ∃ g cap, v = .slice (some ⟨g, 0, .none⟩) (rest.length + 1) cap ∧ base ≤ g ∧ g < w.heap.size ∧ rest.length + 1 ≤ cap ∧ w.cell? ⟨g, rest.length * 2, .none⟩ = some (.string x) ∧ w.cell? ⟨g, rest.length * 2 + 1, .none⟩ = some (.int .i64 (j : Int)) ∧
      w.frozen? ⟨g, rest.length * 2, .none⟩ = false ∧ w.frozen? ⟨g, rest.length * 2 + 1, .none⟩ = false ∧
      PathAt w base (.slice (some ⟨g, 0, .none⟩) rest.length cap) rest ∧
      (∀ j' : Nat, PathAt (w.setCell ⟨g, rest.length * 2 + 1, .none⟩ (.int .i64 (j' : Int))) base v ((x, j') :: rest)) := by
  have h0 := h
  obtain ⟨h1, ⟨h2, h3⟩ | ⟨g, cap, cur, hv, hg, hh, hc, hm, hs, ht⟩⟩ := h
  · simp at h3
  · have hlt := (Array.getElem?_eq_some_iff.1 hh).1
    have hlen : (rest.reverse.flatMap stc).length = rest.length * 2 := by rw [stc_len]; simp
    simp only [List.length_cons] at hv hc ht
    subst hv
    have hcell : ∀ q, q < (rest.length + 1) * 2 → w.cell? ⟨g, q, .none⟩ = (((x, j) :: rest).reverse.flatMap stc)[q]? := fun q hq => World.ownsRow.cellAt h0 q hq
    refine ⟨g, cap, rfl, hg, hlt, hc, ?_, ?_, World.ownsRow.frozenAt h0 _, World.ownsRow.frozenAt h0 _, ?_, fun j' => ?_⟩
    · rw [hcell _ (by omega), path_cells, List.getElem?_append_right (by omega), hlen]
      simp
    · rw [hcell _ (by omega), path_cells, List.getElem?_append_right (by omega), hlen]
      simp
    · refine ⟨by rw [hlen], .inr ⟨g, cap, cur, rfl, hg, hh, by omega, hm, hs, ?_⟩⟩
      have := congrArg (List.take (rest.length * 2)) ht
      rw [List.take_take, path_cells, List.take_append_of_le_length (by omega), List.take_of_length_le (l := rest.reverse.flatMap stc) (by omega), Nat.min_eq_left (by omega)] at this
      exact this
    · have := (World.ownsRow.stored h0 (rest.length * 2 + 1) (.int .i64 (j' : Int))).1
      unfold PathAt
      rw [path_cells] at this ⊢
      rw [List.set_append_right _ _ (by omega), hlen] at this
      simpa using this

theorem PathAt.nil {w : World} {base : Nat} {v : Value} (h : PathAt w base v []) : ∃ a cap, v = .slice a 0 cap := by
  obtain ⟨_, ⟨rfl, _⟩ | ⟨g, cap, cur, hv, _⟩⟩ := h
  · exact ⟨_, _, rfl⟩
  · exact ⟨_, _, hv⟩

/-- The path stays while other blocks turn. -/
theorem PathAt.kept {w w' : World} {base : Nat} {v : Value} {st : List (ByteArray × Nat)} (h : PathAt w base v st) (hb : ∀ j, base ≤ j → j < w.heap.size → w'.heap[j]? = w.heap[j]?) : PathAt w' base v st := by
  obtain ⟨h1, h2 | ⟨g, cap, cur, hv, hg, hh, hr⟩⟩ := h
  · exact ⟨h1, .inl h2⟩
  · exact ⟨h1, .inr ⟨g, cap, cur, hv, hg, (hb g hg (Array.getElem?_eq_some_iff.1 hh).1).trans hh, hr⟩⟩

theorem PathAt.made (w : World) (base : Nat) : PathAt w base (.slice .none 0 0) [] := World.ownsRow_nil _ _ _ _

/-- 'append(path, step{node: x})': what is asked and what comes. -/
theorem PathAt.push {w1 : World} {base g cap : Nat} {st : List (ByteArray × Nat)} {x : ByteArray} (h : w1.ownsRow base 85 2 (.slice (some ⟨g, 0, .none⟩) (st.length + 1) cap) (st.length + 1) (st.reverse.flatMap stc ++ [.string x, .int .i64 0])) :
    PathAt w1 base (.slice (some ⟨g, 0, .none⟩) (st.length + 1) cap) ((x, 0) :: st) := by
  unfold PathAt
  rw [path_cells]
  exact h

end Go.Proofs.Qxb6614206aFmt
