import Derived.Test.Qxb6614061aAll2
set_option linter.unusedVariables false
set_option linter.unusedSimpArgs false
namespace Go.Proofs.Qxb6614061a
open Go.RowKit

theorem Try.info48 : (Try.prog.info? 48).map (fun i => (i.zero, i.size, i.bytes)) = some (some (.agg #[.nilIface, .map .none]), 2, 24) := by kernel_rfl
theorem Try.info53 : (Try.prog.info? 53).map (fun i => (i.zero, i.size, i.bytes)) = some (some .nilIface, 1, 16) := by kernel_rfl

/-- 'make([]selection, n)'. -/
theorem make41 (n : Nat) (hn : n ≤ 1048576) (w : World) : (Instr.makeSlice 41 (.int .i64 (n : Int)) (.int .i64 (n : Int))).run Try.prog w = .ok (SL w.heap.size n) (w.alloc (.cells (madeCells #[.nilIface, .map .none] (n * 2)) 48)) := by
  obtain ⟨i, hi, hz⟩ := Option.map_eq_some_iff.1 Try.info48
  simp only [Prod.mk.injEq] at hz
  obtain ⟨h1, h2, h3⟩ := hz
  have h := run_make (P := Try.prog) w 41 48 i _ Try.underlying41 hi h1 .i64 .i64 (n : Int) (n : Int) (by omega) (Int.le_refl _) (by rw [h3]; omega) (by omega)
  rw [h2] at h
  simpa [Value.cells] using h

theorem made41 (w : World) (n : Nat) : (w.alloc (.cells (madeCells #[.nilIface, .map .none] (n * 2)) 48)).rowIs w.heap.size 48 (2 * n) (selCells (fun _ => .map .none)) := by
  have h := World.rowIs_alloc w (madeCells #[.nilIface, .map .none] (n * 2)) 48 (selCells (fun _ => .map .none)) (fun i hi => by
    rw [size_madeCells] at hi
    unfold selCells
    rcases Nat.mod_two_eq_zero_or_one i with e | e <;> simp [madeCells, hi, e])
  rw [size_madeCells] at h
  rw [Nat.mul_comm 2 n]
  exact h

/-- 'make(map[string]selectedKey, n)'. -/
theorem makeMap42 (n : Nat) (w : World) : (Instr.makeMap 42 (some (.int .i64 (n : Int)))).run Try.prog w = .ok (.map (some w.heap.size)) (w.alloc (.map #[] 0)) := by
  simp [Instr.makeMap, run_underlying Try.underlying42]
  rfl

/-- w' is w but for block m (and new blocks). -/
structure Turn (m : Nat) (w w' : World) : Prop where
  os : w'.os = w.os
  tape : w'.tape = w.tape
  output : w'.output = w.output
  size : w.heap.size ≤ w'.heap.size
  block : ∀ k, k < w.heap.size → k ≠ m → w'.heap[k]? = w.heap[k]?

theorem Turn.refl (m : Nat) (w : World) : Turn m w w := ⟨rfl, rfl, rfl, Nat.le_refl _, fun _ _ _ => rfl⟩

theorem Turn.trans {m : Nat} {a b c : World} (h : Turn m a b) (k : Turn m b c) : Turn m a c :=
  ⟨k.os.trans h.os, k.tape.trans h.tape, k.output.trans h.output, Nat.le_trans h.size k.size, fun i hi hm => (k.block i (Nat.lt_of_lt_of_le hi h.size) hm).trans (h.block i hi hm)⟩

theorem Turn.drew {m : Nat} {a b : World} (h : Turn m a b) : Turn m a b.drew := ⟨h.os, h.tape, h.output, h.size, h.block⟩

theorem Turn.of_grown {m : Nat} {a b : World} (h : a.grownBy b (some m)) : Turn m a b :=
  ⟨h.os, h.tape, h.output, h.size, fun k hk hm => h.block k hk (fun e => hm (Option.some.inj e))⟩

theorem Turn.below {m B : Nat} {w a b : World} (h : Below B w a) (k : Turn m a b) (hm : B ≤ m) (hB : B ≤ a.heap.size) : Below B w b :=
  h.trans ⟨k.os, k.tape, k.output, k.size, fun i hi => k.block i (by omega) (by omega)⟩

/-- A map's block is no row. -/
theorem sel_ne {w : World} {m k b t n : Nat} {S : Nat → ByteArray} {f : Nat → Value} (h : SelMap w m S k) (hr : w.rowIs b t n f) : m ≠ b := by
  intro e
  subst e
  obtain ⟨D, ⟨es, clock, hb, _⟩, _⟩ := h
  obtain ⟨c, hc, _⟩ := hr
  rw [hb] at hc
  cases hc

/-- While the first k selections are laid: block b. -/
structure Fill (w wr : World) (b n k : Nat) (A : Nat → Option Addr) (L : Nat → Nat) (S : Nat → Nat → ByteArray) (V : Nat → Value) : Prop where
  row : wr.rowIs b 48 (2 * n) (selCells (fun i => if i < k then V i else .map .none))
  sel : ∀ i, i < k → SelOk wr (V i) (A i) (L i) (S i)
  bel : Below w.heap.size w wr

theorem fill_start (w : World) (n : Nat) (A : Nat → Option Addr) (L : Nat → Nat) (S : Nat → Nat → ByteArray) :
    Fill w (w.alloc (.cells (madeCells #[.nilIface, .map .none] (n * 2)) 48)) w.heap.size n 0 A L S (fun _ => .map .none) :=
  ⟨(made41 w n).congr (fun i _ => by simp [selCells]), fun i hi => absurd hi (Nat.not_lt_zero _), (Below.refl _ w).alloc (Nat.le_refl _) _⟩

/-- A nil set. -/
theorem fill_nil {w wr : World} {b n k : Nat} {A : Nat → Option Addr} {L : Nat → Nat} {S : Nat → Nat → ByteArray} {V : Nat → Value} (h : Fill w wr b n k A L S V) (hA : A k = .none) (hL : L k = 0) :
    Fill w wr b n (k + 1) A L S (fun i => if i = k then .map .none else V i) := by
  refine ⟨h.row.congr (fun q _ => ?_), fun i hi => ?_, h.bel⟩
  · unfold selCells
    split
    · rfl
    · by_cases e : q / 2 = k
      · simp [e]
      · simp only [e, if_false]
        by_cases e2 : q / 2 < k
        · rw [if_pos e2, if_pos (by omega)]
        · rw [if_neg e2, if_neg (by omega)]
  · by_cases e : i = k
    · subst e
      simp only [if_true]
      exact .inl ⟨rfl, hA, hL⟩
    · simp only [e, if_false]
      exact h.sel i (by omega)

/-- A set laid into the map at block m. -/
theorem fill_map {w wr w2 : World} {n k : Nat} {A : Nat → Option Addr} {L : Nat → Nat} {S : Nat → Nat → ByteArray} {V : Nat → Value} (h : Fill w wr w.heap.size n k A L S V) (hk : k < n)
    (hT : Turn wr.heap.size wr w2) (hM : SelMap w2 wr.heap.size (S k) (L k)) :
    Fill w (w2.setCell ⟨w.heap.size, k * 2 + 1, .none⟩ (.map (some wr.heap.size))) w.heap.size n (k + 1) A L S (fun i => if i = k then .map (some wr.heap.size) else V i) := by
  have hb := h.row.lt
  have hr2 : w2.rowIs w.heap.size 48 (2 * n) (selCells (fun i => if i < k then V i else .map .none)) := h.row.of_block (hT.block _ hb (by omega))
  have hset : ∀ j, j ≠ w.heap.size → (w2.setCell ⟨w.heap.size, k * 2 + 1, .none⟩ (.map (some wr.heap.size))).heap[j]? = w2.heap[j]? := fun j hj => Below.heap_setCell _ _ _ _ hj
  refine ⟨(hr2.set (k * 2 + 1) _).congr (fun q hq => ?_), fun i hi => ?_, (Turn.below h.bel hT (by omega) h.bel.size).setCell (Nat.le_refl _) _⟩
  · unfold selCells
    by_cases e : q = k * 2 + 1
    · subst e
      rw [if_pos rfl, if_neg (by omega)]
      have : (k * 2 + 1) / 2 = k := by omega
      simp [this]
    · rw [if_neg e]
      split
      · rfl
      · have e1 : q / 2 ≠ k := by omega
        simp only [e1, if_false]
        by_cases e2 : q / 2 < k
        · rw [if_pos e2, if_pos (by omega)]
        · rw [if_neg e2, if_neg (by omega)]
  · by_cases e : i = k
    · subst e
      simp only [if_true]
      exact .inr ⟨_, rfl, hM.of_block (hset _ (by omega))⟩
    · simp only [e, if_false]
      rcases h.sel i (by omega) with h0 | ⟨m, h1, h2⟩
      · exact .inl h0
      · have hlt := h2.lt
        have hne := sel_ne h2 h.row
        exact .inr ⟨m, h1, h2.of_block ((hset _ hne).trans (hT.block _ hlt (by omega)))⟩

/-- While the first k keys are laid into block b. -/
structure Lay (w wr : World) (b kn k : Nat) (c : Nat → Bool) (v : Nat → ByteArray) : Prop where
  row : wr.rowIs b 53 kn (fun i => if i < k then keyCells c v i else .nilIface)
  block : ∀ j, j < w.heap.size → wr.heap[j]? = w.heap[j]?
  os : wr.os = w.os
  tape : wr.tape = w.tape
  output : wr.output = w.output
  size : w.heap.size ≤ wr.heap.size

theorem lay_start (w : World) (kn : Nat) (c : Nat → Bool) (v : Nat → ByteArray) : Lay w (w.alloc (.cells (madeCells #[.nilIface] kn) 53)) w.heap.size kn 0 c v :=
  ⟨(World.rowIs_made w .nilIface kn 53).congr (fun i _ => by simp), fun j hj => Below.heap_alloc _ _ _ hj, rfl, rfl, rfl, by simp⟩

theorem lay_step {w wr : World} {kn k : Nat} {c : Nat → Bool} {v : Nat → ByteArray} (h : Lay w wr w.heap.size kn k c v) : Lay w (wr.setCell ⟨w.heap.size, k, .none⟩ (keyCells c v k)) w.heap.size kn (k + 1) c v := by
  refine ⟨(h.row.set k _).congr (fun i _ => ?_), fun j hj => (Below.heap_setCell _ _ _ _ (by simp; omega)).trans (h.block j hj), h.os, h.tape, h.output, by simpa using h.size⟩
  by_cases e : i = k
  · subst e; simp
  · simp only [e, if_false]
    by_cases e2 : i < k
    · rw [if_pos e2, if_pos (by omega)]
    · rw [if_neg e2, if_neg (by omega)]

theorem Fill.of_block {w wr w2 : World} {b n k : Nat} {A : Nat → Option Addr} {L : Nat → Nat} {S : Nat → Nat → ByteArray} {V : Nat → Value} (h : Fill w wr b n k A L S V)
    (hB : ∀ j, j < wr.heap.size → w2.heap[j]? = wr.heap[j]?) (ho : w2.os = wr.os) (ht : w2.tape = wr.tape) (hu : w2.output = wr.output) (hs : wr.heap.size ≤ w2.heap.size) : Fill w w2 b n k A L S V := by
  refine ⟨h.row.of_block (hB _ h.row.lt), fun i hi => ?_, h.bel.trans ⟨ho, ht, hu, hs, fun j hj => hB j (Nat.lt_of_lt_of_le hj h.bel.size)⟩⟩
  rcases h.sel i hi with h0 | ⟨m, h1, h2⟩
  · exact .inl h0
  · exact .inr ⟨m, h1, h2.of_block (hB _ h2.lt)⟩

end Go.Proofs.Qxb6614061a
