import Derived.Test.Qxb6614206aFmtMai
import Derived.Deep.Slices
set_option linter.unusedVariables false
set_option linter.unusedSimpArgs false
namespace Go.Proofs.Qxb6614206aFmt
open Go.RowKit Go.Deep

theorem Tryf.cells38 : Tryf.prog.cellsOf 38 = 4 := by kernel_rfl
theorem Tryf.cells43 : Tryf.prog.cellsOf 43 = 9 := by kernel_rfl
theorem Tryf.cells57 : Tryf.prog.cellsOf 57 = 1 := by kernel_rfl
theorem Tryf.cells41 : Tryf.prog.cellsOf 41 = 1 := by kernel_rfl
theorem Tryf.cells9 : Tryf.prog.cellsOf 9 = 1 := by kernel_rfl
theorem Tryf.cells4 : Tryf.prog.cellsOf 4 = 1 := by kernel_rfl
theorem Tryf.cells3 : Tryf.prog.cellsOf 3 = 1 := by kernel_rfl

section
variable {H : Type} {enc : TypeId × Value → H} {W : World} {base : Nat} {held : Bool} {fuel : Nat}

theorem trod_float {t : TypeId} {k : FloatKind} {spare : Nat → Bool} {cs : List Value} {x : DataW H × List MemPlace} (ht : Tryf.prog.underlying t = some (.float k)) (h : DataW.trod enc Tryf.prog W base spare held fuel t cs = some x) : ∃ b, cs = [.float k b] := by
  cases fuel with
  | zero => simp [DataW.trod] at h
  | succ n =>
    unfold DataW.trod at h
    rw [ht] at h
    split at h <;> simp_all

theorem range_at {α : Type} {f : Nat → α} {len i : Nat} {x : α} (h : ((List.range len).map f)[i]? = some x) : i < len ∧ f i = x := by
  rw [List.getElem?_map] at h
  have hi : i < len := by
    rcases Nat.lt_or_ge i len with h2 | h2
    · exact h2
    · rw [List.getElem?_eq_none (by simpa using h2)] at h; cases h
  rw [List.getElem?_range hi] at h
  simp only [Option.map_some, Option.some.injEq] at h
  exact ⟨hi, h⟩

/-- The delays of a node. -/
theorem open_floats {v : Value} {x : DataW H × List MemPlace} (h : DataW.trod enc Tryf.prog W base (fun _ => true) held fuel 41 [v] = some x) :
    ∃ (a : Option Addr) (l : List Nat) (cap : Nat), v = .slice a l.length cap ∧ FL W a l ∧ l.length ≤ maxLen ∧ (a = .none → l = []) := by
  rcases open_slice Tryf.underlying41 h with ⟨hcs, _⟩ | ⟨a', len', cap', m, n, D, Pl, hcs, _, hl, hm, hmm, _, hx⟩
  · simp at hcs
    exact ⟨.none, [], 0, hcs, fun j x hx => by simp at hx, Nat.zero_le _, fun _ => rfl⟩
  · simp at hcs
    subst hcs
    simp only [if_true] at hmm
    subst hmm
    have each : ∀ i, i < len' → ∃ e : Nat, W.cell? (a'.add i) = some (.float .f64 e) := by
      intro i hi
      obtain ⟨cs', h1, h2⟩ := hx i (by omega)
      rw [Tryf.cells57, Nat.mul_one] at h1
      obtain ⟨_, hlen, hcell⟩ := World.cells?_some h1
      obtain ⟨e, rfl⟩ := trod_float Tryf.underlying57 h2
      have e0 := hcell 0 (by omega)
      rw [add_add] at e0
      exact ⟨e, by simpa using e0⟩
    obtain ⟨q, hq⟩ := choose_lt each
    refine ⟨some a', (List.range len').map q, m, by simp only [List.length_map, List.length_range], ?_, by simp; omega, fun e => by cases e⟩
    intro j x hx
    obtain ⟨hj, rfl⟩ := range_at hx
    have hc00 := hq 0 (by omega)
    obtain ⟨bb, off, spot⟩ := a'
    have hs : spot = .none := by simpa [Addr.add] using World.cell?_spot hc00
    subst hs
    have h0 := hq j hj
    rw [Go.WideShapes.add_plain] at h0
    exact ⟨bb, off, rfl, World.block_lt_of_cell? _ _ h0, h0⟩

set_option maxRecDepth 100000 in
theorem open_edges {a : Option Addr} {len cap : Nat} {x : DataW H × List MemPlace}
    (h : DataW.trod enc Tryf.prog W base (fun _ => true) held fuel 23 [.slice a len cap] = some x) : ∃ l, EL W a l ∧ Sz l ∧ l.length = len ∧ len ≤ maxLen := by
  rcases open_slice Tryf.underlying23 h with ⟨hcs, _⟩ | ⟨a', len', cap', m, n, D, Pl, hcs, _, hl, hm, hmm, _, hx⟩
  · simp at hcs
    obtain ⟨rfl, rfl, rfl⟩ := hcs
    exact ⟨[], fun i e h => by simp at h, fun e he => by simp at he, rfl, Nat.zero_le _⟩
  · simp at hcs
    obtain ⟨rfl, rfl, rfl⟩ := hcs
    simp only [if_true] at hmm
    subst hmm
    have each : ∀ i, i < len → ∃ e : Ed, W.cell? (a'.add (i * 4)) = some (.string e.id) ∧ W.cell? (a'.add (i * 4 + 1)) = some (.string e.src) ∧ W.cell? (a'.add (i * 4 + 2)) = some (.string e.dst) ∧ W.cell? (a'.add (i * 4 + 3)) = some (.bool e.err) ∧
        e.id.size ≤ maxLen ∧ e.src.size ≤ maxLen ∧ e.dst.size ≤ maxLen := by
      intro i hi
      obtain ⟨cs', h1, h2⟩ := hx i (by omega)
      rw [Tryf.cells38] at h1
      obtain ⟨_, hlen, hcell⟩ := World.cells?_some h1
      obtain ⟨xs, k, hk, hxy, _, hxl, hf⟩ := DataW.trod_struct Tryf.underlying38 h2
      match xs, hxl, cs', hlen with
      | [y0, y1, y2, y3], _, [v0, v1, v2, v3], _ =>
        have g0 := hf 0 _ rfl
        have g1 := hf 1 _ rfl
        have g2 := hf 2 _ rfl
        have g3 := hf 3 _ rfl
        simp [Tryf.cells9, Tryf.cells4] at g0 g1 g2 g3
        have e0 := hcell 0 (by omega)
        have e1 := hcell 1 (by omega)
        have e2 := hcell 2 (by omega)
        have e3 := hcell 3 (by omega)
        rw [add_add] at e0 e1 e2 e3
        obtain ⟨s0, a0, _, b0⟩ := DataW.trod_string Tryf.underlying9 g0
        obtain ⟨s1, a1, _, b1⟩ := DataW.trod_string Tryf.underlying9 g1
        obtain ⟨s2, a2, _, b2⟩ := DataW.trod_string Tryf.underlying9 g2
        obtain ⟨s3, a3, _⟩ := DataW.trod_bool Tryf.underlying4 g3
        simp at a0 a1 a2 a3
        subst a0 a1 a2 a3
        exact ⟨⟨s0, s1, s2, s3⟩, by simpa using e0, by simpa using e1, by simpa using e2, by simpa using e3, b0, b1, b2⟩
    have inh : Inhabited Ed := ⟨⟨ByteArray.empty, ByteArray.empty, ByteArray.empty, false⟩⟩
    obtain ⟨q, hq⟩ := choose_lt each
    refine ⟨(List.range len).map q, ?_, ?_, by simp, by omega⟩
    · intro i e he
      obtain ⟨hi, rfl⟩ := range_at he
      have hc00 := (hq 0 (by omega)).1
      obtain ⟨bb, off, spot⟩ := a'
      have hs : spot = .none := by simpa [Addr.add] using World.cell?_spot hc00
      subst hs
      obtain ⟨h0, h1, h2, h3, _⟩ := hq i hi
      rw [Go.WideShapes.add_plain] at h0 h1 h2 h3
      exact ⟨bb, off, rfl, World.block_lt_of_cell? _ _ h0, h0, h1, h2, h3⟩
    · intro e he
      obtain ⟨i, hi, rfl⟩ := List.mem_map.1 he
      exact (hq i (List.mem_range.1 hi)).2.2.2.2

set_option maxRecDepth 100000 in
theorem open_nodes {a : Option Addr} {len cap : Nat} {x : DataW H × List MemPlace}
    (h : DataW.trod enc Tryf.prog W base (fun _ => true) held fuel 22 [.slice a len cap] = some x) : ∃ l, NL W a l ∧ l.length = len ∧ len ≤ maxLen := by
  rcases open_slice Tryf.underlying22 h with ⟨hcs, _⟩ | ⟨a', len', cap', m, n, D, Pl, hcs, _, hl, hm, hmm, _, hx⟩
  · simp at hcs
    obtain ⟨rfl, rfl, rfl⟩ := hcs
    exact ⟨[], fun i e h => by simp at h, rfl, Nat.zero_le _⟩
  · simp at hcs
    obtain ⟨rfl, rfl, rfl⟩ := hcs
    simp only [if_true] at hmm
    subst hmm
    have each : ∀ i, i < len → ∃ e : Nd, NdOk W e ∧ W.cell? (a'.add (i * 9)) = some (.string e.id) ∧ W.cell? (a'.add (i * 9 + 1)) = some (.string e.ty) ∧ W.cell? (a'.add (i * 9 + 2)) = some (.bool e.hp) ∧ W.cell? (a'.add (i * 9 + 3)) = some (.string e.pt) ∧ W.cell? (a'.add (i * 9 + 4)) = some (.string e.ee) ∧
        W.cell? (a'.add (i * 9 + 5)) = some (.bool e.hr) ∧ W.cell? (a'.add (i * 9 + 6)) = some (.bool e.hm) ∧ W.cell? (a'.add (i * 9 + 7)) = some (.int .i64 e.mr) ∧ W.cell? (a'.add (i * 9 + 8)) = some (.slice e.da e.dl.length e.dc) := by
      intro i hi
      obtain ⟨cs', h1, h2⟩ := hx i (by omega)
      rw [Tryf.cells43] at h1
      obtain ⟨_, hlen, hcell⟩ := World.cells?_some h1
      obtain ⟨xs, k, hk, hxy, _, hxl, hf⟩ := DataW.trod_struct Tryf.underlying43 h2
      match xs, hxl, cs', hlen with
      | [y0, y1, y2, y3, y4, y5, y6, y7, y8], _, [v0, v1, v2, v3, v4, v5, v6, v7, v8], _ =>
        have g0 := hf 0 _ rfl
        have g1 := hf 1 _ rfl
        have g2 := hf 2 _ rfl
        have g3 := hf 3 _ rfl
        have g4 := hf 4 _ rfl
        have g5 := hf 5 _ rfl
        have g6 := hf 6 _ rfl
        have g7 := hf 7 _ rfl
        have g8 := hf 8 _ rfl
        simp [Tryf.cells9, Tryf.cells4, Tryf.cells3, Tryf.cells41] at g0 g1 g2 g3 g4 g5 g6 g7 g8
        have e0 := hcell 0 (by omega)
        have e1 := hcell 1 (by omega)
        have e2 := hcell 2 (by omega)
        have e3 := hcell 3 (by omega)
        have e4 := hcell 4 (by omega)
        have e5 := hcell 5 (by omega)
        have e6 := hcell 6 (by omega)
        have e7 := hcell 7 (by omega)
        have e8 := hcell 8 (by omega)
        rw [add_add] at e0 e1 e2 e3 e4 e5 e6 e7 e8
        obtain ⟨s0, a0, _, b0⟩ := DataW.trod_string Tryf.underlying9 g0
        obtain ⟨s1, a1, _, b1⟩ := DataW.trod_string Tryf.underlying9 g1
        obtain ⟨s2, a2, _⟩ := DataW.trod_bool Tryf.underlying4 g2
        obtain ⟨s3, a3, _, b3⟩ := DataW.trod_string Tryf.underlying9 g3
        obtain ⟨s4, a4, _, b4⟩ := DataW.trod_string Tryf.underlying9 g4
        obtain ⟨s5, a5, _⟩ := DataW.trod_bool Tryf.underlying4 g5
        obtain ⟨s6, a6, _⟩ := DataW.trod_bool Tryf.underlying4 g6
        obtain ⟨s7, a7, _⟩ := DataW.trod_int Tryf.underlying3 g7
        obtain ⟨da, dl, dc, a8, hFL, hdl, hnil⟩ := open_floats g8
        simp at a0 a1 a2 a3 a4 a5 a6 a7
        subst a0 a1 a2 a3 a4 a5 a6 a7 a8
        exact ⟨⟨s0, s1, s2, s3, s4, s5, s6, s7, da, dl, dc⟩, ⟨hFL, b0, b1, b3, b4, hdl, hnil⟩, by simpa using e0, by simpa using e1, by simpa using e2, by simpa using e3, by simpa using e4, by simpa using e5, by simpa using e6, by simpa using e7, by simpa using e8⟩
    have inh : Inhabited Nd := ⟨⟨ByteArray.empty, ByteArray.empty, false, ByteArray.empty, ByteArray.empty, false, false, 0, .none, [], 0⟩⟩
    obtain ⟨q, hq⟩ := choose_lt each
    refine ⟨(List.range len).map q, ?_, by simp, by omega⟩
    intro i e he
    obtain ⟨hi, rfl⟩ := range_at he
    have hc00 := (hq 0 (by omega)).2.1
    obtain ⟨bb, off, spot⟩ := a'
    have hs : spot = .none := by simpa [Addr.add] using World.cell?_spot hc00
    subst hs
    obtain ⟨ok, h0, h1, h2, h3, h4, h5, h6, h7, h8⟩ := hq i hi
    rw [Go.WideShapes.add_plain] at h0 h1 h2 h3 h4 h5 h6 h7 h8
    exact ⟨ok, bb, off, rfl, World.block_lt_of_cell? _ _ h0, h0, h1, h2, h3, h4, h5, h6, h7, h8⟩
end

end Go.Proofs.Qxb6614206aFmt
