import Derived.Test.Qxb6613936aIs
set_option linter.unusedVariables false
set_option linter.unusedSimpArgs false
namespace Go.Proofs.Qxb6613936a
open Go.RowKit

theorem Try.info28 : (Try.prog.info? 28).map (fun i => (i.zero, i.size, i.bytes)) = some (some (.pointer .none), 1, 8) := by kernel_rfl
theorem Try.info30 : (Try.prog.info? 30).map (fun i => (i.zero, i.size, i.bytes)) = some (some (.int .u64 0), 1, 8) := by kernel_rfl

/-- The cells of a waiter as it is made. -/
abbrev newWaiter (s : Int) : Obj := .cells #[.int .i64 0, .int .u64 s, .pointer .none, .pointer .none, .pointer .none, .chan .none] 42

/-- w' is w but for block b. -/
structure Only (b : Nat) (w w' : World) : Prop where
  os : w'.os = w.os
  tape : w'.tape = w.tape
  output : w'.output = w.output
  size : w'.heap.size = w.heap.size
  block : ∀ k, k ≠ b → w'.heap[k]? = w.heap[k]?

theorem Only.refl (b : Nat) (w : World) : Only b w w := ⟨rfl, rfl, rfl, rfl, fun _ _ => rfl⟩

theorem Only.setCell {b : Nat} {a w : World} (h : Only b a w) (i : Nat) (u : Value) : Only b a (w.setCell ⟨b, i, .none⟩ u) :=
  ⟨h.os, h.tape, h.output, by simpa using h.size, fun k h1 => (Below.heap_setCell _ _ _ _ h1).trans (h.block k h1)⟩

/-- What holds ahead of round k: q = w.heap.size: the queue, q + 1: the waiters' pointers, q + 2: the slice of numbers, from q + 3 on: the waiters. -/
structure Inv (w wr : World) (n k : Nat) (L : List Nat) (s : St) : Prop where
  len : L.length = k
  lt : ∀ p x, wat L p = some x → x < k
  rep : Rep L s
  fresh : ∀ x, k ≤ x → s.prev x = .none ∧ s.next x = .none
  mem : Mem wr w.heap.size (w.heap.size + 3) k s
  nodes : wr.rowIs (w.heap.size + 1) 28 n (fun j => if j < k then P1 (w.heap.size + 3 + j) else .pointer .none)
  model : wr.rowIs (w.heap.size + 2) 30 n (fun r => .int .u64 (mv L r))
  size : wr.heap.size = w.heap.size + 3 + k
  bel : Below w.heap.size w wr

/-- The queue as it is made. -/
abbrev newQueue : Obj := .cells #[.pointer .none, .pointer .none] 37

def s0 : St := ⟨.none, .none, fun _ => .none, fun _ => .none⟩

theorem inv_start (w : World) (n : Nat) : Inv w (((w.alloc newQueue).alloc (.cells (madeCells #[.pointer .none] n) 28)).alloc (.cells (madeCells #[.int .u64 0] n) 30)) n 0 [] s0 := by
  refine ⟨rfl, ?_, rep_nil, fun _ _ => ⟨rfl, rfl⟩, ⟨?_, fun j hj => absurd hj (Nat.not_lt_zero _)⟩, ?_, ?_, by simp, ?_⟩
  · intro p x h; simp [wat] at h
  · refine (World.rowIs.alloc (World.rowIs.alloc ((World.rowIs_alloc w #[.pointer .none, .pointer .none] 37 (qcell (w.heap.size + 3) s0)) ?_) _) _)
    intro i hi
    rcases two i hi with rfl | rfl <;> rfl
  · have h := World.rowIs.alloc (World.rowIs_made (w.alloc newQueue) (.pointer .none) n 28) (.cells (madeCells #[.int .u64 0] n) 30)
    simp only [World.size_alloc] at h
    exact h.congr (fun i _ => by simp)
  · have h := World.rowIs_made ((w.alloc newQueue).alloc (.cells (madeCells #[.pointer .none] n) 28)) (.int .u64 0) n 30
    simp only [World.size_alloc] at h
    exact h.congr (fun i _ => by simp [mv])
  · exact (((Below.refl _ w).alloc (Nat.le_refl _) _).alloc (by simp) _).alloc (by simp; omega) _

/-- Behind the new waiter's making and the store of its pointer. -/
theorem inv_mid {w wr : World} {n k : Nat} {L : List Nat} {s : St} (h : Inv w wr n k L s) (hk : k < n) :
    Mem ((wr.alloc (newWaiter ((k : Int) + 1))).setCell ⟨w.heap.size + 1, k, .none⟩ (P1 (w.heap.size + 3 + k))) w.heap.size (w.heap.size + 3) (k + 1) s ∧
    ((wr.alloc (newWaiter ((k : Int) + 1))).setCell ⟨w.heap.size + 1, k, .none⟩ (P1 (w.heap.size + 3 + k))).rowIs (w.heap.size + 1) 28 n (fun j => if j < k + 1 then P1 (w.heap.size + 3 + j) else .pointer .none) ∧
    ((wr.alloc (newWaiter ((k : Int) + 1))).setCell ⟨w.heap.size + 1, k, .none⟩ (P1 (w.heap.size + 3 + k))).rowIs (w.heap.size + 2) 30 n (fun r => .int .u64 (mv L r)) := by
  refine ⟨⟨(h.mem.own.alloc _).setOther (by simp) _, fun j hj => ?_⟩, ?_, (h.model.alloc _).setOther (by simp) _⟩
  · by_cases e : j < k
    · exact ((h.mem.node j e).alloc _).setOther (by simp; omega) _
    · obtain rfl : j = k := by omega
      have hn := World.rowIs_alloc wr #[.int .i64 0, .int .u64 ((j : Int) + 1), .pointer .none, .pointer .none, .pointer .none, .chan .none] 42 (wcell j (pt (w.heap.size + 3) (s.prev j)) (pt (w.heap.size + 3) (s.next j))) (fun i hi => by
        rw [(h.fresh j (Nat.le_refl _)).1, (h.fresh j (Nat.le_refl _)).2]
        rcases six i hi with rfl | rfl | rfl | rfl | rfl | rfl <;> rfl)
      rw [h.size] at hn
      exact hn.setOther (by simp; omega) _
  · refine ((h.nodes.alloc _).set k _).congr (fun j hj => ?_)
    by_cases e : j = k
    · subst e; simp
    · simp only [e, if_false]
      by_cases e2 : j < k
      · rw [if_pos e2, if_pos (by omega)]
      · rw [if_neg e2, if_neg (by omega)]

theorem Inv.notin {w wr : World} {n k : Nat} {L : List Nat} {s : St} (h : Inv w wr n k L s) (r : Nat) : L[r]? ≠ some k := fun e => by
  have := h.lt r k e; omega

theorem Inv.atlt {w wr : World} {n k : Nat} {L : List Nat} {s : St} (h : Inv w wr n k L s) {p : Nat} : ∀ a, atOf L p = some a → a < k + 1 ∧ a ≠ k := by
  intro a ha
  unfold atOf at ha
  split at ha
  · cases ha
  · have := h.lt _ a ha; omega

theorem Inv.nxlt {w wr : World} {n k : Nat} {L : List Nat} {s : St} (h : Inv w wr n k L s) {p : Nat} (hp : p ≤ k) : ∀ x, s.nx (atOf L p) = some x → x < k + 1 ∧ x ≠ k ∧ atOf L p ≠ some x := by
  intro x hx
  rw [h.rep.nx (by have := h.len; omega)] at hx
  have := h.lt p x hx
  refine ⟨by omega, by omega, ?_⟩
  unfold atOf
  split
  · simp
  · intro e
    have := h.rep.inj _ _ _ hx e
    omega

/-- The shifting loop at j. -/
def shifted (L : List Nat) (j : Nat) : Nat → Value := fun r => .int .u64 (if r ≤ j then mv L r else mv L (r - 1))

theorem shifted_start {w : World} {b n k : Nat} {L : List Nat} (hl : L.length = k) (h : w.rowIs b 30 n (fun r => .int .u64 (mv L r))) : w.rowIs b 30 n (shifted L k) :=
  h.congr (fun r _ => by
    unfold shifted
    split
    · rfl
    · rw [mv_past L r (by omega), mv_past L (r - 1) (by omega)])

theorem shifted_step {w : World} {b n j : Nat} {L : List Nat} (h : w.rowIs b 30 n (shifted L (j + 1))) : (w.setCell ⟨b, j + 1, .none⟩ (.int .u64 (mv L j))).rowIs b 30 n (shifted L j) :=
  (h.set (j + 1) _).congr (fun r _ => by
    unfold shifted
    by_cases e : r = j + 1
    · subst e; simp; omega
    · simp only [e, if_false]
      by_cases e2 : r ≤ j
      · rw [if_pos (by omega), if_pos e2]
      · rw [if_neg (by omega), if_neg e2])

theorem shifted_end {w : World} {b n p k : Nat} {L : List Nat} (hp : p ≤ L.length) (h : w.rowIs b 30 n (shifted L p)) : (w.setCell ⟨b, p, .none⟩ (.int .u64 ((k : Int) + 1))).rowIs b 30 n (fun r => .int .u64 (mv (L.insertIdx p k) r)) :=
  (h.set p _).congr (fun r _ => by
    rw [mv_ins L p k r hp]
    unfold shifted
    by_cases e : r = p
    · simp [e]
    · simp only [e, if_false])

/-- The round's end. -/
theorem inv_end {w wr W2 W3 : World} {n k p : Nat} {L : List Nat} {s : St} (h : Inv w wr n k L s) (hk : k < n) (hp : p ≤ k)
    (hM : Mem W2 w.heap.size (w.heap.size + 3) (k + 1) (s.ins (atOf L p) k))
    (hO : Off w.heap.size (w.heap.size + 3) ((wr.alloc (newWaiter ((k : Int) + 1))).setCell ⟨w.heap.size + 1, k, .none⟩ (P1 (w.heap.size + 3 + k))) W2)
    (hs : W2.heap.size = ((wr.alloc (newWaiter ((k : Int) + 1))).setCell ⟨w.heap.size + 1, k, .none⟩ (P1 (w.heap.size + 3 + k))).heap.size)
    (h3 : Only (w.heap.size + 2) W2 W3) (hr : W3.rowIs (w.heap.size + 2) 30 n (shifted L p)) :
    Inv w (W3.setCell ⟨w.heap.size + 2, p, .none⟩ (.int .u64 ((k : Int) + 1))) n (k + 1) (L.insertIdx p k) (s.ins (atOf L p) k) := by
  have hlen := h.len
  have h4 := h3.setCell p (.int .u64 ((k : Int) + 1))
  obtain ⟨m1, m2, _⟩ := inv_mid h hk
  refine ⟨by rw [List.length_insertIdx]; simp [hlen, hp], ?_, h.rep.ins (by omega) h.notin, ?_, ⟨hM.own.of_block (h4.block _ (by omega)), fun j hj => (hM.node j hj).of_block (h4.block _ (by omega))⟩, ?_, shifted_end (by omega) hr, ?_, ?_⟩
  · intro r x hx
    unfold wat at hx
    rw [ins_get _ _ _ _ (by omega)] at hx
    split at hx
    · have := h.lt r x hx; omega
    · split at hx
      · cases hx; omega
      · have := h.lt _ x hx; omega
  · intro x hx
    obtain ⟨f1, f2⟩ := h.fresh x (by omega)
    have a1 := h.atlt (p := p) x
    have a2 := h.nxlt hp x
    constructor
    · show (if x = k then _ else if some x = s.nx (atOf L p) then some k else s.prev x) = _
      rw [if_neg (by omega), if_neg (fun e => by have := a2 e.symm; omega), f1]
    · show (if x = k then _ else if some x = atOf L p then some k else s.next x) = _
      rw [if_neg (by omega), if_neg (fun e => by have := a1 e.symm; omega), f2]
  · exact m2.of_block ((h4.block _ (by omega)).trans (hO.block _ (by omega) (by omega)))
  · rw [h4.size, hs]; simp; have := h.size; omega
  · refine h.bel.trans ⟨?_, ?_, ?_, ?_, fun j hj => ?_⟩
    · rw [h4.os, hO.os]; rfl
    · rw [h4.tape, hO.tape]; rfl
    · rw [h4.output, hO.output]; rfl
    · rw [h4.size, hs]; simp
    · have hws := h.size
      rw [h4.block _ (by omega), hO.block _ (by omega) (by omega), Below.heap_setCell _ _ _ _ (by simp; omega), Below.heap_alloc _ _ _ (by omega)]

end Go.Proofs.Qxb6613936a
