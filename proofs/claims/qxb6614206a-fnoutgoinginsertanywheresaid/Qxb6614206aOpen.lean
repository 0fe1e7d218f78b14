import Derived.Test.Qxb6614206aDefs
import Derived.Deep.Slices
set_option linter.unusedVariables false
set_option linter.unusedSimpArgs false
namespace Go.Proofs.Qxb6614206a
open Go.RowKit Go.Deep

theorem Try.cells36 : Try.prog.cellsOf 36 = 4 := by kernel_rfl
theorem Try.cells9 : Try.prog.cellsOf 9 = 1 := by kernel_rfl
theorem Try.cells4 : Try.prog.cellsOf 4 = 1 := by kernel_rfl

theorem open_edges {H : Type} {enc : TypeId × Value → H} {W : World} {base : Nat} {held : Bool} {fuel : Nat} {a : Option Addr} {len cap : Nat} {x : DataW H × List MemPlace}
    (h : DataW.trod enc Try.prog W base (fun _ => true) held fuel 22 [.slice a len cap] = some x) : ∃ l, EL W a l ∧ Sz l ∧ l.length = len ∧ len ≤ maxLen := by
  rcases open_slice Try.underlying22 h with ⟨hcs, _⟩ | ⟨a', len', cap', m, n, D, Pl, hcs, _, hl, hm, hmm, _, hx⟩
  · simp at hcs
    obtain ⟨rfl, rfl, rfl⟩ := hcs
    exact ⟨[], EL.nil _ _, fun e he => by simp at he, rfl, Nat.zero_le _⟩
  · simp at hcs
    obtain ⟨rfl, rfl, rfl⟩ := hcs
    simp only [if_true] at hmm
    subst hmm
    have each : ∀ i, i < len → ∃ e : ByteArray × ByteArray × ByteArray × Bool, W.cell? (a'.add (i * 4)) = some (.string e.1) ∧ W.cell? (a'.add (i * 4 + 1)) = some (.string e.2.1) ∧ W.cell? (a'.add (i * 4 + 2)) = some (.string e.2.2.1) ∧ W.cell? (a'.add (i * 4 + 3)) = some (.bool e.2.2.2) ∧
        e.1.size ≤ maxLen ∧ e.2.1.size ≤ maxLen ∧ e.2.2.1.size ≤ maxLen := by
      intro i hi
      obtain ⟨cs', h1, h2⟩ := hx i (by omega)
      rw [Try.cells36] at h1
      obtain ⟨_, hlen, hcell⟩ := World.cells?_some h1
      obtain ⟨xs, k, hk, hxy, _, hxl, hf⟩ := DataW.trod_struct Try.underlying36 h2
      match xs, hxl, cs', hlen with
      | [y0, y1, y2, y3], _, [v0, v1, v2, v3], _ =>
        have g0 := hf 0 _ rfl
        have g1 := hf 1 _ rfl
        have g2 := hf 2 _ rfl
        have g3 := hf 3 _ rfl
        simp [Try.cells9, Try.cells4] at g0 g1 g2 g3
        have e0 := hcell 0 (by omega)
        have e1 := hcell 1 (by omega)
        have e2 := hcell 2 (by omega)
        have e3 := hcell 3 (by omega)
        rw [add_add] at e0 e1 e2 e3
        obtain ⟨s0, a0, _, b0⟩ := DataW.trod_string Try.underlying9 g0
        obtain ⟨s1, a1, _, b1⟩ := DataW.trod_string Try.underlying9 g1
        obtain ⟨s2, a2, _, b2⟩ := DataW.trod_string Try.underlying9 g2
        obtain ⟨s3, a3, _⟩ := DataW.trod_bool Try.underlying4 g3
        simp at a0 a1 a2 a3
        subst a0 a1 a2 a3
        exact ⟨(s0, s1, s2, s3), by simpa using e0, by simpa using e1, by simpa using e2, by simpa using e3, b0, b1, b2⟩
    obtain ⟨q, hq⟩ := choose_lt each
    refine ⟨(List.range len).map (fun i => ⟨(q i).1, (q i).2.1, (q i).2.2.1, (q i).2.2.2⟩), ?_, ?_, by simp, by omega⟩
    · intro i e he
      rw [List.getElem?_map] at he
      have hi : i < len := by
        rcases Nat.lt_or_ge i len with h | h
        · exact h
        · rw [List.getElem?_eq_none (by simpa using h)] at he; cases he
      rw [List.getElem?_range hi] at he
      simp only [Option.map_some, Option.some.injEq] at he
      subst he
      have hc0 := (hq i hi).1
      have hc00 := (hq 0 (by omega)).1
      obtain ⟨bb, off, spot⟩ := a'
      have hs : spot = .none := by simpa [Addr.add] using World.cell?_spot hc00
      subst hs
      obtain ⟨h0, h1, h2, h3, _⟩ := hq i hi
      rw [Go.WideShapes.add_plain] at h0 h1 h2 h3
      exact ⟨bb, off, rfl, World.block_lt_of_cell? _ _ h0, h0, h1, h2, h3⟩
    · intro e he
      obtain ⟨i, hi, rfl⟩ := List.mem_map.1 he
      exact (hq i (List.mem_range.1 hi)).2.2.2.2

end Go.Proofs.Qxb6614206a
