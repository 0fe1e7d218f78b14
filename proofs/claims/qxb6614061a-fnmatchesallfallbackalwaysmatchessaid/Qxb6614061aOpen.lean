import Derived.Test.Qxb6614061aMain
import Derived.Deep.Strs
import Derived.Deep.SlicePairs
set_option linter.unusedVariables false
set_option linter.unusedSimpArgs false
namespace Go.Proofs.Qxb6614061a
open Go.RowKit Go.Deep

theorem Try.cells26 : Try.prog.cellsOf 26 = 1 := by kernel_rfl
theorem Try.cells9 : Try.prog.cellsOf 9 = 1 := by kernel_rfl
theorem Try.cells4 : Try.prog.cellsOf 4 = 1 := by kernel_rfl
theorem Try.cells38 : Try.prog.cellsOf 38 = 2 := by kernel_rfl

/-- Plain addresses, once there is a cell. -/
theorem plain_at {w : World} {a : Addr} {v : Value} (h : w.cell? a = some v) : ∃ b off, a = ⟨b, off, .none⟩ ∧ b < w.heap.size := by
  obtain ⟨b, off, spot⟩ := a
  have hs : spot = .none := by simpa using World.cell?_spot h
  subst hs
  exact ⟨b, off, rfl, World.block_lt_of_cell? _ _ h⟩

theorem add_plain' (b off i : Nat) : (Addr.mk b off .none).add i = ⟨b, off + i, .none⟩ := Go.WideShapes.add_plain b off i

theorem open_sets {H : Type} {enc : TypeId × Value → H} {W : World} {base : Nat} {held : Bool} {fuel : Nat} {a : Option Addr} {len cap : Nat} {x : DataW H × List MemPlace}
    (h : DataW.trod enc Try.prog W base (fun _ => true) held fuel 22 [.slice a len cap] = some x) : ∃ A L C S, Sets W a len A L C S := by
  rcases open_slice1 Try.underlying22 Try.cells26 h with ⟨hcs, _⟩ | ⟨a', len', cap', m, n, V, D, Pl, hcs, _, hl, hm, hmm, _, hx⟩
  · simp at hcs
    obtain ⟨rfl, rfl, rfl⟩ := hcs
    exact ⟨fun _ => .none, fun _ => 0, fun _ => 0, fun _ _ => ByteArray.empty, ⟨fun i hi => absurd hi (Nat.not_lt_zero _), fun i hi => absurd hi (Nat.not_lt_zero _), fun i hi => absurd hi (Nat.not_lt_zero _)⟩⟩
  · simp at hcs
    obtain ⟨rfl, rfl, rfl⟩ := hcs
    simp only [if_true] at hmm
    subst hmm
    have each : ∀ i, i < len → ∃ q : Option Addr × Nat × Nat × (Nat → ByteArray), V i = .slice q.1 q.2.1 q.2.2.1 ∧ StrAt W q.1 q.2.1 q.2.2.2 ∧ q.2.1 ≤ maxLen := by
      intro i hi
      rcases open_strs Try.underlying26 Try.underlying9 Try.cells9 (hx i (by omega)).2 with ⟨h1, _⟩ | ⟨b, l, c, m', Sx, h1, _, hl', hm', hmm', _, hS⟩
      · exact ⟨(.none, 0, 0, fun _ => ByteArray.empty), by simpa using h1, fun j hj => absurd hj (Nat.not_lt_zero _), Nat.zero_le _⟩
      · refine ⟨(some b, l, c, Sx), by simpa using h1, fun j hj => ?_, by simp only; omega⟩
        simp only at hj ⊢
        simp only [if_true] at hmm'
        subst hmm'
        obtain ⟨hc0, _⟩ := hS 0 (by omega)
        obtain ⟨hcj, hsj⟩ := hS j (by omega)
        obtain ⟨bb, off, spot⟩ := b
        have hs : spot = .none := by simpa [Addr.add] using World.cell?_spot hc0
        subst hs
        rw [add_plain'] at hcj
        exact ⟨bb, off, rfl, World.block_lt_of_cell? _ _ hcj, hcj, hsj⟩
    obtain ⟨q, hq⟩ := choose_lt each
    refine ⟨fun i => (q i).1, fun i => (q i).2.1, fun i => (q i).2.2.1, fun i => (q i).2.2.2, ⟨fun i hi => ?_, fun i hi => (hq i hi).2.1, fun i hi => (hq i hi).2.2⟩⟩
    have hc0 := (hx 0 (by omega)).1
    have hci := (hx i (by omega)).1
    obtain ⟨bb, off, spot⟩ := a'
    have hs : spot = .none := by simpa [Addr.add] using World.cell?_spot hc0
    subst hs
    rw [add_plain', (hq i hi).1] at hci
    exact ⟨bb, off, rfl, World.block_lt_of_cell? _ _ hci, hci⟩

theorem open_keys {H : Type} {enc : TypeId × Value → H} {W : World} {base : Nat} {held : Bool} {fuel : Nat} {a : Option Addr} {len cap : Nat} {x : DataW H × List MemPlace}
    (h : DataW.trod enc Try.prog W base (fun _ => true) held fuel 23 [.slice a len cap] = some x) : ∃ c v, Keys W a len c v ∧ len ≤ maxLen := by
  rcases open_slice_pairs Try.underlying23 Try.underlying38 Try.cells38 rfl rfl Try.cells4 Try.cells9 h with ⟨hcs, _⟩ | ⟨a', len', cap', m, n, V0, V1, D0, D1, P0, P1, hcs, _, hl, hm, hmm, _, hx⟩
  · simp at hcs
    obtain ⟨rfl, rfl, rfl⟩ := hcs
    exact ⟨fun _ => false, fun _ => ByteArray.empty, fun i hi => absurd hi (Nat.not_lt_zero _), Nat.zero_le _⟩
  · simp at hcs
    obtain ⟨rfl, rfl, rfl⟩ := hcs
    simp only [if_true] at hmm
    subst hmm
    have each : ∀ i, i < len → ∃ q : Bool × ByteArray, V0 i = .bool q.1 ∧ V1 i = .string q.2 ∧ q.2.size ≤ maxLen := by
      intro i hi
      obtain ⟨_, _, h0, h1⟩ := hx i (by omega)
      obtain ⟨b, e0, _⟩ := DataW.trod_bool Try.underlying4 h0
      obtain ⟨s, e1, _, e2⟩ := DataW.trod_string Try.underlying9 h1
      exact ⟨(b, s), by simpa using e0, by simpa using e1, e2⟩
    obtain ⟨q, hq⟩ := choose_lt each
    refine ⟨fun i => (q i).1, fun i => (q i).2, fun i hi => ?_, by omega⟩
    have hc0 := (hx 0 (by omega)).1
    obtain ⟨hci, hci1, _, _⟩ := hx i (by omega)
    obtain ⟨bb, off, spot⟩ := a'
    have hs : spot = .none := by simpa [Addr.add] using World.cell?_spot hc0
    subst hs
    rw [add_plain', (hq i hi).1] at hci
    rw [add_plain', (hq i hi).2.1] at hci1
    exact ⟨bb, off, rfl, World.block_lt_of_cell? _ _ hci, hci, hci1, (hq i hi).2.2⟩

end Go.Proofs.Qxb6614061a
