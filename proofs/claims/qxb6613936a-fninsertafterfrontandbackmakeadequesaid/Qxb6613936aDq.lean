import Derived.Test.Qxb6613936aInv
set_option linter.unusedVariables false
set_option linter.unusedSimpArgs false
namespace Go.Proofs.Qxb6613936a
open Go.RowKit

/-- The front-inserted numbers below k, the latest first. -/
def fr (f : Nat → Bool) : Nat → List Nat
  | 0 => []
  | k + 1 => if f k then k :: fr f k else fr f k

/-- The back-inserted numbers below k, the earliest first. -/
def bk (f : Nat → Bool) : Nat → List Nat
  | 0 => []
  | k + 1 => if f k then bk f k else bk f k ++ [k]

/-- The queue behind k rounds. -/
def dq (f : Nat → Bool) (k : Nat) : List Nat := fr f k ++ bk f k

theorem dq_front (f : Nat → Bool) (k : Nat) (h : f k = true) : dq f (k + 1) = (dq f k).insertIdx 0 k := by
  simp [dq, fr, bk, h]

theorem dq_back (f : Nat → Bool) (k : Nat) (h : f k = false) : dq f (k + 1) = (dq f k).insertIdx (dq f k).length k := by
  rw [List.insertIdx_length_self]
  simp [dq, fr, bk, h]

theorem dq_len (f : Nat → Bool) : ∀ k, (dq f k).length = k
  | 0 => rfl
  | k + 1 => by
    have ih := dq_len f k
    unfold dq at ih ⊢
    simp only [List.length_append, fr, bk] at ih ⊢
    cases f k <;> simp <;> omega

theorem bk_mono (f : Nat → Bool) (i : Nat) : ∀ n, i ≤ n → (bk f i).length ≤ (bk f n).length
  | 0, h => by rw [Nat.le_zero.1 h]; exact Nat.le_refl _
  | n + 1, h => by
    by_cases e : i = n + 1
    · rw [e]; exact Nat.le_refl _
    · have := bk_mono f i n (by omega)
      simp only [bk]
      split
      · exact this
      · simp; omega

theorem mv_snoc (G : List Nat) (x r : Nat) : mv (G ++ [x]) r = if r = G.length then (x : Int) + 1 else mv G r := by
  unfold mv
  by_cases h1 : r < G.length
  · rw [List.getElem?_append_left h1, if_neg (by omega)]
  · by_cases h2 : r = G.length
    · subst h2; simp
    · rw [if_neg h2, List.getElem?_eq_none (l := G) (by omega), List.getElem?_eq_none (by simp; omega)]

/-- One number more in the slice. -/
theorem row_snoc {w : World} {b n : Nat} {G : List Nat} (x : Nat) (h : w.rowIs b 30 n (fun r => .int .u64 (mv G r))) :
    (w.setCell ⟨b, G.length, .none⟩ (.int .u64 ((x : Int) + 1))).rowIs b 30 n (fun r => .int .u64 (mv (G ++ [x]) r)) :=
  (h.set G.length _).congr (fun r _ => by
    rw [mv_snoc]
    by_cases e : r = G.length
    · rw [if_pos e, if_pos e]
    · rw [if_neg e, if_neg e])

/-- What holds ahead of round k: q = w.heap.size: the queue, q + 1: the waiters' pointers, from q + 2 on: the waiters. -/
structure InvD (w wr : World) (n k : Nat) (L : List Nat) (s : St) : Prop where
  len : L.length = k
  lt : ∀ p x, wat L p = some x → x < k
  rep : Rep L s
  fresh : ∀ x, k ≤ x → s.prev x = .none ∧ s.next x = .none
  mem : Mem wr w.heap.size (w.heap.size + 2) k s
  nodes : wr.rowIs (w.heap.size + 1) 28 n (fun j => if j < k then P1 (w.heap.size + 2 + j) else .pointer .none)
  size : wr.heap.size = w.heap.size + 2 + k
  bel : Below w.heap.size w wr

theorem invD_start (w : World) (n : Nat) : InvD w ((w.alloc newQueue).alloc (.cells (madeCells #[.pointer .none] n) 28)) n 0 [] s0 := by
  refine ⟨rfl, ?_, rep_nil, fun _ _ => ⟨rfl, rfl⟩, ⟨?_, fun j hj => absurd hj (Nat.not_lt_zero _)⟩, ?_, by simp, ?_⟩
  · intro p x h; simp [wat] at h
  · refine (World.rowIs.alloc ((World.rowIs_alloc w #[.pointer .none, .pointer .none] 37 (qcell (w.heap.size + 2) s0)) ?_) _)
    intro i hi
    rcases two i hi with rfl | rfl <;> rfl
  · have h := World.rowIs_made (w.alloc newQueue) (.pointer .none) n 28
    simp only [World.size_alloc] at h
    exact h.congr (fun i _ => by simp)
  · exact ((Below.refl _ w).alloc (Nat.le_refl _) _).alloc (by simp) _

theorem invD_mid {w wr : World} {n k : Nat} {L : List Nat} {s : St} (h : InvD w wr n k L s) (hk : k < n) :
    Mem ((wr.alloc (newWaiter ((k : Int) + 1))).setCell ⟨w.heap.size + 1, k, .none⟩ (P1 (w.heap.size + 2 + k))) w.heap.size (w.heap.size + 2) (k + 1) s ∧
    ((wr.alloc (newWaiter ((k : Int) + 1))).setCell ⟨w.heap.size + 1, k, .none⟩ (P1 (w.heap.size + 2 + k))).rowIs (w.heap.size + 1) 28 n (fun j => if j < k + 1 then P1 (w.heap.size + 2 + j) else .pointer .none) := by
  refine ⟨⟨(h.mem.own.alloc _).setOther (by simp) _, fun j hj => ?_⟩, ?_⟩
  · by_cases e : j < k
    · exact ((h.mem.node j e).alloc _).setOther (by simp; omega) _
    · obtain rfl : j = k := by omega
      have hn := World.rowIs_alloc wr #[.int .i64 0, .int .u64 ((j : Int) + 1), .pointer .none, .pointer .none, .pointer .none, .chan .none] 42 (wcell j (pt (w.heap.size + 2) (s.prev j)) (pt (w.heap.size + 2) (s.next j))) (fun i hi => by
        rw [(h.fresh j (Nat.le_refl _)).1, (h.fresh j (Nat.le_refl _)).2]
        rcases six i hi with rfl | rfl | rfl | rfl | rfl | rfl <;> rfl)
      rw [h.size] at hn
      exact hn.setOther (by simp; omega) _
  · refine ((h.nodes.alloc _).set k _).congr (fun j hj => ?_)
    by_cases e : j = k
    · subst e; simp
    · simp only [e, if_false]
      by_cases e2 : j < k
      · rw [if_pos e2, if_pos (by omega)]
      · rw [if_neg e2, if_neg (by omega)]

theorem InvD.notin {w wr : World} {n k : Nat} {L : List Nat} {s : St} (h : InvD w wr n k L s) (r : Nat) : L[r]? ≠ some k := fun e => by
  have := h.lt r k e; omega

theorem InvD.atlt {w wr : World} {n k : Nat} {L : List Nat} {s : St} (h : InvD w wr n k L s) {p : Nat} : ∀ a, atOf L p = some a → a < k + 1 ∧ a ≠ k := by
  intro a ha
  unfold atOf at ha
  split at ha
  · cases ha
  · have := h.lt _ a ha; omega

theorem InvD.nxlt {w wr : World} {n k : Nat} {L : List Nat} {s : St} (h : InvD w wr n k L s) {p : Nat} (hp : p ≤ k) : ∀ x, s.nx (atOf L p) = some x → x < k + 1 ∧ x ≠ k ∧ atOf L p ≠ some x := by
  intro x hx
  rw [h.rep.nx (by have := h.len; omega)] at hx
  have := h.lt p x hx
  refine ⟨by omega, by omega, ?_⟩
  unfold atOf
  split
  · simp
  · intro e
    have := h.rep.inj _ _ _ hx e
    omega

/-- One round. -/
theorem insD {w' wr w2 : World} {k i p : Nat} {L : List Nat} {s : St} (hI : InvD w' wr k i L s) (hik : i < k) (hp : p ≤ i) (hw2 : w2 = wr.alloc (newWaiter ((i : Int) + 1))) :
    Calls Try.prog 8 #[P1 w'.heap.size, pt (w'.heap.size + 2) (atOf L p), P1 (w'.heap.size + 2 + i)] (w2.setCell ⟨w'.heap.size + 1, i, .none⟩ (P1 (w'.heap.size + 2 + i)))
      fun e w3 => e = .returned (.tuple #[]) ∧ InvD w' w3 k (i + 1) (L.insertIdx p i) (s.ins (atOf L p) i) := by
  subst hw2
  have hlen := hI.len
  obtain ⟨m1, m2⟩ := invD_mid hI hik
  refine (ins_mem w'.heap.size (w'.heap.size + 2) (i + 1) s _ (atOf L p) i m1 (by omega) (by omega) hI.atlt (hI.nxlt hp)).mono ?_
  rintro e w3 ⟨rfl, hM, hO, hs⟩
  refine ⟨rfl, by rw [List.length_insertIdx]; simp [hlen, hp], ?_, hI.rep.ins (by omega) hI.notin, ?_, hM, m2.of_block (hO.block _ (by omega) (by omega)), ?_, ?_⟩
  · intro r x hx
    unfold wat at hx
    rw [ins_get _ _ _ _ (by omega)] at hx
    split at hx
    · have := hI.lt r x hx; omega
    · split at hx
      · cases hx; omega
      · have := hI.lt _ x hx; omega
  · intro x hx
    obtain ⟨f1, f2⟩ := hI.fresh x (by omega)
    have a1 := hI.atlt (p := p) x
    have a2 := hI.nxlt hp x
    constructor
    · show (if x = i then _ else if some x = s.nx (atOf L p) then some i else s.prev x) = _
      rw [if_neg (by omega), if_neg (fun e => by have := a2 e.symm; omega), f1]
    · show (if x = i then _ else if some x = atOf L p then some i else s.next x) = _
      rw [if_neg (by omega), if_neg (fun e => by have := a1 e.symm; omega), f2]
  · rw [hs]; simp; have := hI.size; omega
  · refine hI.bel.trans ⟨?_, ?_, ?_, ?_, fun j hj => ?_⟩
    · rw [hO.os]; rfl
    · rw [hO.tape]; rfl
    · rw [hO.output]; rfl
    · rw [hs]; simp
    · have hws := hI.size
      rw [hO.block _ (by omega) (by omega), Below.heap_setCell _ _ _ _ (by simp; omega), Below.heap_alloc _ _ _ (by omega)]

/-- The last waiter is the one ahead of the end. -/
theorem InvD.last {w wr : World} {n k : Nat} {L : List Nat} {s : St} (h : InvD w wr n k L s) : s.last = atOf L k := by
  rw [h.rep.last, h.len]
  unfold atOf
  split
  · next e => rw [List.getElem?_eq_none (by have := h.len; omega)]
  · rfl

/-- While the list that is wanted is laid into block q + 2 + n. -/
structure Fin2 (w W : World) (n : Nat) (s : St) (G : List Nat) : Prop where
  mem : Mem W w.heap.size (w.heap.size + 2) n s
  nodes : W.rowIs (w.heap.size + 1) 28 n (fun j => P1 (w.heap.size + 2 + j))
  want : W.rowIs (w.heap.size + 2 + n) 30 n (fun r => .int .u64 (mv G r))
  bel : Below w.heap.size w W

theorem fin_start {w wr : World} {n : Nat} {L : List Nat} {s : St} (h : InvD w wr n n L s) : Fin2 w (wr.alloc (.cells (madeCells #[.int .u64 0] n) 30)) n s [] := by
  have hs := h.size
  refine ⟨⟨h.mem.own.alloc _, fun j hj => (h.mem.node j hj).alloc _⟩, (h.nodes.alloc _).congr (fun j hj => by rw [if_pos hj]), ?_, h.bel.alloc (by omega) _⟩
  have hr := World.rowIs_made wr (.int .u64 0) n 30
  rw [hs] at hr
  exact hr.congr (fun i _ => by simp [mv])

theorem fin_step {w W : World} {n : Nat} {s : St} {G : List Nat} (h : Fin2 w W n s G) (x : Nat) :
    Fin2 w (W.setCell ⟨w.heap.size + 2 + n, G.length, .none⟩ (.int .u64 ((x : Int) + 1))) n s (G ++ [x]) :=
  ⟨⟨h.mem.own.setOther (by simp; omega) _, fun j hj => (h.mem.node j hj).setOther (by simp; omega) _⟩, h.nodes.setOther (by simp; omega) _, row_snoc x h.want, h.bel.setCell (by simp; omega) _⟩

theorem fr_le (f : Nat → Bool) (n : Nat) : (fr f n).length + (bk f n).length = n := by
  have := dq_len f n
  unfold dq at this
  simpa using this

end Go.Proofs.Qxb6613936a
