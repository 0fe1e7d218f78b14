import Derived.Test.Qxb6614206aFmtMox
set_option linter.unusedVariables false
set_option linter.unusedSimpArgs false
namespace Go.Proofs.Qxb6614206aFmt
open Go.RowKit

/-- The memory of the peeling. wb: the world behind the second loop; D: the block of the counts. -/
structure Km (wb wr : World) (D n : Nat) (q : List Nat) (I : Nat → Nat) (v : Value) : Prop where
  que : wr.ownsRow wb.heap.size 3 1 v q.length (q.map iv)
  ind : wr.rowIs D 3 n (fun u => iv (I u))
  os : wr.os = wb.os
  tape : wr.tape = wb.tape
  output : wr.output = wb.output
  size : wb.heap.size ≤ wr.heap.size
  block : ∀ i, i < wb.heap.size → i ≠ D → wr.heap[i]? = wb.heap[i]?
  lt : D < wb.heap.size
  le : ∀ u, u < n → I u ≤ 65536

theorem Km.below {w wb wr : World} {D n : Nat} {q : List Nat} {I : Nat → Nat} {v : Value} (h : Km wb wr D n q I v) (hB : Below w.heap.size w wb) (hD : w.heap.size ≤ D) : Below w.heap.size w wr :=
  hB.trans ⟨h.os, h.tape, h.output, h.size, fun i hi => h.block i (Nat.lt_of_lt_of_le hi hB.size) (by omega)⟩

/-- A count goes down. -/
theorem Km.dec {wb wr : World} {D n : Nat} {q : List Nat} {I : Nat → Nat} {v : Value} (h : Km wb wr D n q I v) {x : Nat} (hx : I x ≠ 0) :
    Km wb (wr.setCell ⟨D, x, .none⟩ (.int .i64 ((I x : Int) - 1))) D n q (fun u => if u = x then I u - 1 else I u) v where
  que := by
    have hlt := h.lt
    refine h.que.kept (row := some D) ⟨rfl, rfl, rfl, by simp, fun k _ hk => Below.heap_setCell _ _ _ _ (fun e => hk (by rw [e]))⟩ ?_
    cases hb : v.ownBlock with
    | none => exact .inl rfl
    | some k =>
      refine .inr (fun e => ?_)
      injection e with e
      have := (h.que.lt k hb).1
      omega
  ind := (h.ind.set x _).congr (fun u hu => by
    by_cases e : u = x
    · subst e
      simp only [if_true, iv]
      congr 1
      omega
    · simp [e])
  os := h.os
  tape := h.tape
  output := h.output
  size := by simpa using h.size
  block := fun i hi hd => (Below.heap_setCell _ _ _ _ hd).trans (h.block i hi hd)
  lt := h.lt
  le := fun u hu => by
    have := h.le u hu
    show (if u = x then I u - 1 else I u) ≤ 65536
    split <;> omega

/-- One comes to the queue. -/
theorem Km.push {wb wr w1 : World} {D n x g cap : Nat} {q : List Nat} {I : Nat → Nat} {v : Value} {o : Obj} (h : Km wb wr D n q I v) (hown : w1.ownsRow wb.heap.size 3 1 (.slice (some ⟨g, 0, .none⟩) (q.length + 1) cap) (q.length + 1) (q.map iv ++ [iv x])) (hg : (wr.alloc o).grownBy w1 v.ownBlock) :
    Km wb w1 D n (q ++ [x]) I (.slice (some ⟨g, 0, .none⟩) (q.length + 1) cap) := by
  have hlt := h.lt
  have hsz := h.size
  have hvb : ∀ k, v.ownBlock = some k → wb.heap.size ≤ k := fun k hk => (h.que.lt k hk).1
  have key : ∀ i, i < wb.heap.size → w1.heap[i]? = wr.heap[i]? := fun i hi => (hg.block i (by simp; omega) (fun e => by have := hvb i e.symm; omega)).trans (Below.heap_alloc _ _ _ (by omega))
  refine ⟨?_, h.ind.of_block (key D hlt), hg.os.trans h.os, hg.tape.trans h.tape, hg.output.trans h.output, Nat.le_trans (by simp; omega) hg.size, fun i hi hd => (key i hi).trans (h.block i hi hd), hlt, h.le⟩
  rw [List.length_append, List.map_append]
  exact hown

theorem Km.start {wb wr : World} {D n : Nat} {q : List Nat} {I : Nat → Nat} {v : Value} (hq : wr.ownsRow wb.heap.size 3 1 v q.length (q.map iv)) (hB : Below wb.heap.size wb wr) (hI : wb.rowIs D 3 n (fun u => iv (I u))) (hle : ∀ u, u < n → I u ≤ 65536) : Km wb wr D n q I v :=
  ⟨hq, hI.of_block (hB.block _ hI.lt), hB.os, hB.tape, hB.output, hB.size, fun i hi _ => hB.block i hi, hI.lt, hle⟩

theorem Km.adj {wb wr : World} {D n A base : Nat} {q : List Nat} {I : Nat → Nat} {v : Value} {V : Nat → Value} {L : Nat → List Nat} (h : Km wb wr D n q I v) (hA : AM wb A base n V L) (h1 : A ≠ D) (h2 : D < base) : AM wr A base n V L :=
  hA.kept (row := some D) ⟨h.os, h.tape, h.output, h.size, fun i hi hd => h.block i hi (fun e => hd (by rw [e]))⟩ (fun e => h1 (Option.some.inj e)) (fun u hu => by
    cases hb : (V u).ownBlock with
    | none => exact .inl rfl
    | some k =>
      refine .inr (fun e => ?_)
      injection e with e
      have := ((hA.own u hu).lt k hb).1
      omega)

theorem Km.form {wb wr : World} {D n : Nat} {q : List Nat} {I : Nat → Nat} {v : Value} (h : Km wb wr D n q I v) (hq : 0 < q.length) : ∃ g cap, v = .slice (some ⟨g, 0, .none⟩) q.length cap := by
  obtain ⟨_, ⟨_, h5⟩ | ⟨g, cap, cur, hv, _⟩⟩ := h.que
  · omega
  · exact ⟨g, cap, hv⟩

theorem own_form {w : World} {base e size n : Nat} {v : Value} {xs : List Value} (h : w.ownsRow base e size v n xs) : ∃ a cap, v = .slice a n cap := by
  obtain ⟨_, ⟨h4, h5⟩ | ⟨g, cap, cur, hv, _⟩⟩ := h
  · exact ⟨.none, 0, by rw [h4, h5]⟩
  · exact ⟨_, cap, hv⟩

end Go.Proofs.Qxb6614206aFmt
