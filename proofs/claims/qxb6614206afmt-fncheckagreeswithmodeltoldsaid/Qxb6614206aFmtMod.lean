import Derived.Test.Qxb6614206aFmtChe
set_option linter.unusedVariables false
set_option linter.unusedSimpArgs false
namespace Go.Proofs.Qxb6614206aFmt
open Go.RowKit

/-- The place of an id. -/
def ix (ids : List ByteArray) (s : ByteArray) : Option Nat := ids.findIdx? (fun x => decide (x = s))

theorem ix_some {ids : List ByteArray} {s : ByteArray} {i : Nat} (h : ix ids s = some i) : i < ids.length ∧ ids[i]? = some s := by
  unfold ix at h
  rw [List.findIdx?_eq_some_iff_getElem] at h
  obtain ⟨h1, h2, _⟩ := h
  simp only [decide_eq_true_eq] at h2
  exact ⟨h1, by rw [List.getElem?_eq_getElem h1, h2]⟩

theorem ix_mem {ids : List ByteArray} {s : ByteArray} : (ix ids s).isSome = true ↔ s ∈ ids := by
  unfold ix
  rw [List.findIdx?_isSome]
  simp

theorem ix_snoc {ids : List ByteArray} {x : ByteArray} (hx : x ∉ ids) (s : ByteArray) : ix (ids ++ [x]) s = if s = x then some ids.length else ix ids s := by
  unfold ix
  rw [List.findIdx?_append]
  by_cases e : s = x
  · subst e
    have : ids.findIdx? (fun y => decide (y = s)) = .none := by
      rw [List.findIdx?_eq_none_iff]
      intro y hy
      simp only [decide_eq_false_iff_not]
      exact fun e => hx (e ▸ hy)
    rw [this, if_pos rfl]
    simp
  · rw [if_neg e]
    have : ¬ x = s := fun h => e h.symm
    simp [this]

theorem ix_at {ids : List ByteArray} (hn : ids.Nodup) {i : Nat} {s : ByteArray} (h : ids[i]? = some s) : ix ids s = some i := by
  have hm : s ∈ ids := List.mem_of_getElem? h
  have h1 := ix_mem.2 hm
  cases hx : ix ids s with
  | none => rw [hx] at h1; cases h1
  | some j =>
    obtain ⟨h2, h3⟩ := ix_some hx
    obtain ⟨h4, h5⟩ := List.getElem?_eq_some_iff.1 h
    obtain ⟨h6, h7⟩ := List.getElem?_eq_some_iff.1 h3
    rw [List.Nodup, List.pairwise_iff_getElem] at hn
    rcases Nat.lt_trichotomy i j with h8 | h8 | h8
    · exact absurd (h5.trans h7.symm) (hn i j h4 h6 h8)
    · rw [h8]
    · exact absurd (h7.trans h5.symm) (hn j i h6 h4 h8)

/-- The rows of the edges, by index. -/
def adjOf (ids : List ByteArray) (E : List Ed) (u : Nat) : List Nat := E.filterMap (fun e => if ix ids e.src = some u then ix ids e.dst else .none)

theorem adj_snoc (ids : List ByteArray) (E : List Ed) (e : Ed) {a b : Nat} (ha : ix ids e.src = some a) (hb : ix ids e.dst = some b) (u : Nat) : adjOf ids (E ++ [e]) u = turn (adjOf ids E) a (adjOf ids E a ++ [b]) u := by
  unfold adjOf turn
  rw [List.filterMap_append]
  by_cases h : u = a
  · subst h
    simp [ha, hb]
  · have : ¬ a = u := fun e => h e.symm
    simp [ha, h, this]

theorem adj_mem {ids : List ByteArray} {E : List Ed} {u v : Nat} : v ∈ adjOf ids E u ↔ ∃ e ∈ E, ix ids e.src = some u ∧ ix ids e.dst = some v := by
  unfold adjOf
  rw [List.mem_filterMap]
  constructor
  · rintro ⟨e, he, h⟩
    split at h
    · exact ⟨e, he, by assumption, h⟩
    · cases h
  · rintro ⟨e, he, h1, h2⟩
    exact ⟨e, he, by rw [if_pos h1]; exact h2⟩

/-- All came: no cycle. -/
theorem acyc_full {ids : List ByteArray} {E : List Ed} (hs : ∀ e ∈ E, e.src ∈ ids ∧ e.dst ∈ ids) {rem : Nat → List Nat} {q : List Nat} {I : Nat → Nat} (h : Kahn ids.length (adjOf ids E) rem q I) (hl : q.length = ids.length) : Acyc E := by
  obtain ⟨r, hr⟩ := h.full hl
  refine acyc_of_down ⟨fun s => match ix ids s with | some i => r i | .none => 0, fun e he => ?_⟩
  obtain ⟨h1, h2⟩ := hs e he
  have a1 := ix_mem.2 h1
  have a2 := ix_mem.2 h2
  cases hu : ix ids e.src with
  | none => rw [hu] at a1; cases a1
  | some u =>
    cases hv : ix ids e.dst with
    | none => rw [hv] at a2; cases a2
    | some v =>
      simp only [hu, hv]
      exact hr u v (ix_some hu).1 (ix_some hv).1 (adj_mem.2 ⟨e, he, hu, hv⟩)

/-- Not all came: a cycle. -/
theorem acyc_short {ids : List ByteArray} {E : List Ed} (hn : ids.Nodup) {rem : Nat → List Nat} {q : List Nat} {I : Nat → Nat} (h : Kahn ids.length (adjOf ids E) rem q I) (hp : ∀ u ∈ q, rem u = []) (hl : q.length ≠ ids.length) : ¬ Acyc E := by
  rintro ⟨r, hr⟩
  refine h.short hp hl ⟨fun i => match ids[i]? with | some s => r s | .none => 0, fun u v hu hv hA => ?_⟩
  obtain ⟨e, he, h1, h2⟩ := adj_mem.1 hA
  have h3 := hr e he
  simp only [(ix_some h1).2, (ix_some h2).2]
  exact h3


def iv (x : Nat) : Value := .int .i64 (x : Int)

/-- Rows of integers, one a node, in memory: their headers in block A. -/
structure AM (w : World) (A base n : Nat) (V : Nat → Value) (L : Nat → List Nat) : Prop where
  row : w.rowIs A 64 n V
  own : ∀ u, u < n → w.ownsRow base 3 1 (V u) (L u).length ((L u).map iv)
  apart : ∀ u v, u < n → v < n → u ≠ v → (V u).ownBlock = .none ∨ (V u).ownBlock ≠ (V v).ownBlock
  lt : A < base

theorem AM.kept {w w' : World} {A base n : Nat} {V : Nat → Value} {L : Nat → List Nat} {row : Option Nat} (h : AM w A base n V L) (hg : w.grownBy w' row) (h1 : some A ≠ row) (h2 : ∀ u, u < n → (V u).ownBlock = .none ∨ (V u).ownBlock ≠ row) : AM w' A base n V L :=
  ⟨h.row.of_block (hg.block _ h.row.lt h1), fun u hu => (h.own u hu).kept hg (h2 u hu), h.apart, h.lt⟩

theorem AM.below {w w' : World} {A base n : Nat} {V : Nat → Value} {L : Nat → List Nat} (h : AM w A base n V L) (hB : Below w.heap.size w w') : AM w' A base n V L :=
  h.kept (row := .none) ⟨hB.os, hB.tape, hB.output, hB.size, fun i hi _ => hB.block i hi⟩ (by simp) (fun u hu => by
    cases hb : (V u).ownBlock with
    | none => exact .inl rfl
    | some b => exact .inr (by simp))

def putV (V : Nat → Value) (a : Nat) (v : Value) : Nat → Value := fun u => if u = a then v else V u

/-- 'adj[a] = append(adj[a], b)': the row grows, then its header is stored. -/
theorem AM.push {w w1 : World} {A base n a b g cap : Nat} {V : Nat → Value} {L : Nat → List Nat} (h : AM w A base n V L) (ha : a < n) (hown : w1.ownsRow base 3 1 (.slice (some ⟨g, 0, .none⟩) ((L a).length + 1) cap) ((L a).length + 1) ((L a).map iv ++ [iv b])) (hg : w.grownBy w1 (V a).ownBlock)
    (hat : (V a).ownBlock = some g ∨ g = w.heap.size) :
    AM (w1.setCell ⟨A, a, .none⟩ (.slice (some ⟨g, 0, .none⟩) ((L a).length + 1) cap)) A base n (putV V a (.slice (some ⟨g, 0, .none⟩) ((L a).length + 1) cap)) (turn L a (L a ++ [b])) := by
  have hAg : ∀ u, u < n → ∀ k, (V u).ownBlock = some k → base ≤ k ∧ k < w.heap.size := fun u hu k hk => (h.own u hu).lt k hk
  have hA1 : some A ≠ (V a).ownBlock := fun e => by have := (hAg a ha A e.symm).1; have := h.lt; omega
  have hrow1 : w1.rowIs A 64 n V := h.row.of_block (hg.block _ h.row.lt hA1)
  have hgA : base ≤ g := (hown.lt g rfl).1
  have hset : w1.grownBy (w1.setCell ⟨A, a, .none⟩ (.slice (some ⟨g, 0, .none⟩) ((L a).length + 1) cap)) (some A) := ⟨rfl, rfl, rfl, by simp, fun k _ hk => Below.heap_setCell _ _ _ _ (fun e => hk (by rw [e]))⟩
  have hne : ∀ u, u < n → u ≠ a → (V u).ownBlock = .none ∨ (V u).ownBlock ≠ some g := fun u hu hua => by
    rcases hat with h1 | h1
    · rw [← h1]; exact h.apart u a hu ha hua
    · cases hb : (V u).ownBlock with
      | none => exact .inl rfl
      | some k => refine .inr (fun e => ?_); injection e with e; have := (hAg u hu k hb).2; omega
  refine ⟨?_, ?_, ?_, h.lt⟩
  · exact (hrow1.set a _).congr (fun i hi => rfl)
  · intro u hu
    unfold putV turn
    by_cases e : u = a
    · simp only [e, if_true]
      have := hown.kept hset (.inr (by simp [Value.ownBlock]; have := h.lt; omega))
      simpa using this
    · simp only [e, if_false]
      have k1 := (h.own u hu).kept hg (h.apart u a hu ha e)
      refine k1.kept hset ?_
      cases hb : (V u).ownBlock with
      | none => exact .inl rfl
      | some k => refine .inr (fun e => ?_); injection e with e; have := (hAg u hu k hb).1; have := h.lt; omega
  · intro u v hu hv huv
    unfold putV
    by_cases e : u = a
    · have e2 : ¬ v = a := fun h => huv (e.trans h.symm)
      simp only [e, if_true, e2, if_false]
      rcases hne v hv e2 with h1 | h1
      · exact .inr (by rw [h1]; simp [Value.ownBlock])
      · exact .inr (fun h2 => h1 h2.symm)
    · simp only [e, if_false]
      by_cases e2 : v = a
      · simp only [e2, if_true]
        exact hne u hu e
      · simp only [e2, if_false]
        exact h.apart u v hu hv huv

end Go.Proofs.Qxb6614206aFmt
