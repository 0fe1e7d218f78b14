import Derived.Test.Qxb6614206aFmtMod
set_option linter.unusedVariables false
set_option linter.unusedSimpArgs false
namespace Go.Proofs.Qxb6614206aFmt
open Go.RowKit

/-- What the model answers. -/
def Says (p : Prop) (w w' : World) (e : Ending) : Prop := ∃ b, e = .returned (.bool b) ∧ (b = true ↔ p) ∧ Below w.heap.size w w'

theorem Says.no {p : Prop} {w w' : World} (h : ¬ p) (hB : Below w.heap.size w w') : Says p w w' (.returned (.bool false)) := ⟨false, rfl, ⟨fun h => (Bool.noConfusion h), fun h' => absurd h' h⟩, hB⟩

theorem zero3 (w : World) : (zeroValue 3).run Tryf.prog w = .ok (.int .i64 0) w := by kernel_rfl

theorem Tryf.info3 : (Tryf.prog.info? 3).map (fun i => (i.zero, i.size, i.bytes)) = some (some (.int .i64 0), 1, 8) := by kernel_rfl
theorem Tryf.info64 : (Tryf.prog.info? 64).map (fun i => (i.zero, i.size, i.bytes)) = some (some (.slice .none 0 0), 1, 24) := by kernel_rfl

theorem make64 (n : Nat) (hn : n ≤ 65536) (w : World) : (Instr.makeSlice 64 (.int .i64 (n : Int)) (.int .i64 (n : Int))).run Tryf.prog w = .ok (.slice (some ⟨w.heap.size, 0, .none⟩) n n) (w.alloc (.cells (madeCells #[.int .i64 0] n) 3)) := by
  obtain ⟨i, hi, hz⟩ := Option.map_eq_some_iff.1 Tryf.info3
  simp only [Prod.mk.injEq] at hz
  obtain ⟨h1, h2, h3⟩ := hz
  have h := run_make (P := Tryf.prog) w 64 3 i _ Tryf.underlying64 hi h1 .i64 .i64 (n : Int) (n : Int) (by omega) (Int.le_refl _) (by rw [h3]; omega) (by omega)
  rw [h2, Nat.mul_one] at h
  simpa [Value.cells] using h

theorem make65 (n : Nat) (hn : n ≤ 65536) (w : World) : (Instr.makeSlice 65 (.int .i64 (n : Int)) (.int .i64 (n : Int))).run Tryf.prog w = .ok (.slice (some ⟨w.heap.size, 0, .none⟩) n n) (w.alloc (.cells (madeCells #[.slice .none 0 0] n) 64)) := by
  obtain ⟨i, hi, hz⟩ := Option.map_eq_some_iff.1 Tryf.info64
  simp only [Prod.mk.injEq] at hz
  obtain ⟨h1, h2, h3⟩ := hz
  have h := run_make (P := Tryf.prog) w 65 64 i _ Tryf.underlying65 hi h1 .i64 .i64 (n : Int) (n : Int) (by omega) (Int.le_refl _) (by rw [h3]; omega) (by omega)
  rw [h2, Nat.mul_one] at h
  simpa [Value.cells] using h

/-- While the edges are laid. wa: the world behind the first loop. -/
structure Kg (wa wr : World) (N : List Nd) (E : List Ed) (n j : Nat) (V : Nat → Value) (I : Nat → Nat) : Prop where
  v2 : V2 N (E.take j)
  srcs : VM wr wa.heap.size j (fun s => (look (E.take j) s).map (fun e => .string e.src))
  ind : wr.rowIs (wa.heap.size + 1) 3 n (fun u => iv (I u))
  adj : AM wr (wa.heap.size + 2) (wa.heap.size + 3) n V (adjOf (N.map Nd.id) (E.take j))
  cnt : ∀ v, v < n → I v = cnt n (adjOf (N.map Nd.id) (E.take j)) v
  le : ∀ v, v < n → I v ≤ j
  bel : Below wa.heap.size wa wr

theorem cnt_nil (n v : Nat) : cnt n (fun _ => []) v = 0 := (cnt_zero n).2 (fun u _ h => by simp at h)

theorem Kg.start (wa : World) (N : List Nd) (E : List Ed) (n : Nat) : Kg wa (((wa.alloc (.map #[] 0)).alloc (.cells (madeCells #[.int .i64 0] n) 3)).alloc (.cells (madeCells #[.slice .none 0 0] n) 64)) N E n 0 (fun _ => .slice .none 0 0) (fun _ => 0) where
  v2 := V2.nil N
  srcs := ((VM.made wa).congr (fun s => rfl)).of_block ((Below.heap_alloc _ _ _ (by simp; omega)).trans (Below.heap_alloc _ _ _ (by simp)))
  ind := by
    have := World.rowIs_made (wa.alloc (.map #[] 0)) (.int .i64 0) n 3
    have h2 : ((wa.alloc (.map #[] 0)).alloc (.cells (madeCells #[.int .i64 0] n) 3)).rowIs (wa.heap.size + 1) 3 n (fun _ => .int .i64 0) := by simpa using this
    exact (h2.alloc _).congr (fun i _ => rfl)
  adj := by
    refine ⟨?_, fun u hu => World.ownsRow_nil _ _ _ _, fun u v _ _ _ => .inl rfl, by omega⟩
    have := World.rowIs_made ((wa.alloc (.map #[] 0)).alloc (.cells (madeCells #[.int .i64 0] n) 3)) (.slice .none 0 0) n 64
    simpa using this
  cnt := fun v hv => by
    show 0 = _
    exact (cnt_nil n v).symm
  le := fun v hv => Nat.le_refl _
  bel := (((Below.refl _ wa).alloc (Nat.le_refl _) _).alloc (by simp) _).alloc (by simp; omega) _

theorem adj_len (ids : List ByteArray) (E : List Ed) (u : Nat) : (adjOf ids E u).length ≤ E.length := List.length_filterMap_le _ _

/-- Behind the store into the map of sources. -/
theorem Kg.mid {wa wr w4 : World} {N : List Nd} {E : List Ed} {n j : Nat} {V : Nat → Value} {I : Nat → Nat} (h : Kg wa wr N E n j V I) {o : Obj} (hg : (wr.alloc o).grownBy w4 (some wa.heap.size)) :
    w4.rowIs (wa.heap.size + 1) 3 n (fun u => iv (I u)) ∧ AM w4 (wa.heap.size + 2) (wa.heap.size + 3) n V (adjOf (N.map Nd.id) (E.take j)) ∧ Below wa.heap.size wa w4 := by
  have hs : wa.heap.size < wr.heap.size := h.srcs.lt
  refine ⟨?_, ?_, ?_⟩
  · exact (h.ind.alloc o).of_block (hg.block _ (by have := h.ind.lt; simp; omega) (by simp))
  · refine (h.adj.below ((Below.refl _ wr).alloc (Nat.le_refl _) o)).kept hg (by simp) (fun u hu => ?_)
    cases hb : (V u).ownBlock with
    | none => exact .inl rfl
    | some k =>
      refine .inr (fun e => ?_)
      injection e with e
      have := ((h.adj.own u hu).lt k hb).1
      omega
  · exact (h.bel.alloc h.bel.size o).grown hg (by have := h.bel.size; simp; omega) (fun k hk => by injection hk with hk; omega)

theorem Kg.step {wa wr w4 w6 : World} {N : List Nd} {E : List Ed} {n j a b g cap : Nat} {V : Nat → Value} {I : Nat → Nat} {e : Ed} (h : Kg wa wr N E n j V I) (he : E[j]? = some e) (h1 : e.id.size ≠ 0) (h2 : e.id ∉ (E.take j).map Ed.id) (ha : ix (N.map Nd.id) e.src = some a) (hb : ix (N.map Nd.id) e.dst = some b) (han : a < n) (hbn : b < n)
    {o : Obj} (hg : (wr.alloc o).grownBy w4 (some wa.heap.size)) (hVM : VM w4 wa.heap.size (j + 1) (upd (fun s => (look (E.take j) s).map (fun e => .string e.src)) e.id (.string e.src))) {o2 : Obj}
    (hown : w6.ownsRow (wa.heap.size + 3) 3 1 (.slice (some ⟨g, 0, .none⟩) ((adjOf (N.map Nd.id) (E.take j) a).length + 1) cap) ((adjOf (N.map Nd.id) (E.take j) a).length + 1) ((adjOf (N.map Nd.id) (E.take j) a).map iv ++ [iv b]))
    (hg6 : (w4.alloc o2).grownBy w6 (V a).ownBlock) (hat : (V a).ownBlock = some g ∨ g = (w4.alloc o2).heap.size) :
    Kg wa ((w6.setCell ⟨wa.heap.size + 2, a, .none⟩ (.slice (some ⟨g, 0, .none⟩) ((adjOf (N.map Nd.id) (E.take j) a).length + 1) cap)).setCell ⟨wa.heap.size + 1, b, .none⟩ (.int .i64 ((I b : Int) + 1))) N E n (j + 1)
      (putV V a (.slice (some ⟨g, 0, .none⟩) ((adjOf (N.map Nd.id) (E.take j) a).length + 1) cap)) (fun v => if v = b then I v + 1 else I v) := by
  obtain ⟨m1, m2, m3⟩ := h.mid hg
  have m2' := m2.below ((Below.refl _ w4).alloc (Nat.le_refl _) o2)
  have hvb : ∀ k, (V a).ownBlock = some k → wa.heap.size + 3 ≤ k := fun k hk => ((m2'.own a han).lt k hk).1
  have hs4 : wa.heap.size + 2 < w4.heap.size := m2.row.lt
  have hext : adjOf (N.map Nd.id) (E.take (j + 1)) = turn (adjOf (N.map Nd.id) (E.take j)) a (adjOf (N.map Nd.id) (E.take j) a ++ [b]) := by
    funext u
    rw [List.take_add_one, he]
    exact adj_snoc _ _ e ha hb u
  have hA := m2'.push han hown hg6 hat
  have hD6 : w6.rowIs (wa.heap.size + 1) 3 n (fun u => iv (I u)) := (m1.alloc o2).of_block (hg6.block _ (by simp; omega) (fun e => by have := hvb _ e.symm; omega))
  have hV6 : VM w6 wa.heap.size (j + 1) _ := hVM.of_block ((hg6.block _ (by simp; omega) (fun e => by have := hvb _ e.symm; omega)).trans (Below.heap_alloc _ _ _ (by omega)))
  have hB6 : Below wa.heap.size wa w6 := (m3.alloc m3.size o2).grown hg6 (by have := m3.size; simp; omega) (fun k hk => by have := hvb k hk; omega)
  refine ⟨?_, ?_, ?_, ?_, ?_, ?_, ?_⟩
  · have hm := fun s => @ix_mem (N.map Nd.id) s
    exact h.v2.step he h1 ((hm _).1 (by rw [ha]; rfl)) ((hm _).1 (by rw [hb]; rfl)) h2
  · refine (hV6.of_block ((Below.heap_setCell _ _ _ _ (by simp)).trans (Below.heap_setCell _ _ _ _ (by simp)))).congr (fun s => ?_)
    rw [look_step he h2]
    unfold upd
    split <;> rfl
  · refine ((hD6.setOther (by simp) _).set b _).congr (fun u hu => ?_)
    by_cases e : u = b
    · subst e; simp [iv]
    · simp [e]
  · rw [hext]
    have hset : ∀ (W : World) (v : Value), W.grownBy (W.setCell ⟨wa.heap.size + 1, b, .none⟩ v) (some (wa.heap.size + 1)) := fun W v => ⟨rfl, rfl, rfl, by simp, fun k _ hk => Below.heap_setCell _ _ _ _ (fun e => hk (by rw [e]))⟩
    refine hA.kept (hset _ _) (by simp) (fun u hu => ?_)
    cases hbk : (putV V a (.slice (some ⟨g, 0, .none⟩) ((adjOf (N.map Nd.id) (E.take j) a).length + 1) cap) u).ownBlock with
    | none => exact .inl rfl
    | some k =>
      refine .inr (fun e => ?_)
      injection e with e
      have := ((hA.own u hu).lt k hbk).1
      omega
  · intro v hv
    rw [hext, cnt_put v n han]
    have := h.cnt v hv
    by_cases e : v = b
    · simp only [e, if_true] at this ⊢; omega
    · simp only [e, if_false] at this ⊢; omega
  · intro v hv
    have := h.le v hv
    show (if v = b then I v + 1 else I v) ≤ j + 1
    split <;> omega
  · exact (hB6.setCell (by simp) _).setCell (by simp) _

end Go.Proofs.Qxb6614206aFmt
