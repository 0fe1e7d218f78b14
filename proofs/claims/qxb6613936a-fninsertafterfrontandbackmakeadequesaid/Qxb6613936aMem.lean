import Derived.Test.Qxb6613936aIns
set_option linter.unusedVariables false
set_option linter.unusedSimpArgs false
namespace Go.Proofs.Qxb6613936a
open Go.RowKit

/-- The queue as plain data: waiters by number. -/
structure St where
  first : Option Nat
  last : Option Nat
  prev : Nat → Option Nat
  next : Nat → Option Nat

/-- Who comes behind the place 'at'. -/
def St.nx (s : St) : Option Nat → Option Nat
  | .none => s.first
  | .some a => s.next a

/-- Waiter k put right behind 'at'. -/
def St.ins (s : St) (p : Option Nat) (k : Nat) : St where
  first := if p = .none then some k else s.first
  last := if s.nx p = .none then some k else s.last
  next := fun x => if x = k then s.nx p else if some x = p then some k else s.next x
  prev := fun x => if x = k then p else if some x = s.nx p then some k else s.prev x

def qcell (B : Nat) (s : St) : Nat → Value := fun c => if c = 0 then pt B s.first else pt B s.last

/-- How the queue lies in memory: its own block q, m waiters from block B on. -/
structure Mem (w : World) (q B m : Nat) (s : St) : Prop where
  own : w.rowIs q 37 2 (qcell B s)
  node : ∀ j, j < m → w.rowIs (B + j) 42 6 (wcell j (pt B (s.prev j)) (pt B (s.next j)))

/-- w' is w but for block q and the blocks from B on. -/
structure Off (q B : Nat) (w w' : World) : Prop where
  os : w'.os = w.os
  tape : w'.tape = w.tape
  output : w'.output = w.output
  size : w.heap.size ≤ w'.heap.size
  block : ∀ k, k < B → k ≠ q → w'.heap[k]? = w.heap[k]?

theorem Off.refl (q B : Nat) (w : World) : Off q B w w := ⟨rfl, rfl, rfl, Nat.le_refl _, fun _ _ _ => rfl⟩

theorem Off.setCell {q B : Nat} {a w : World} (h : Off q B a w) {p : Addr} (hp : p.block = q ∨ B ≤ p.block) (u : Value) : Off q B a (w.setCell p u) :=
  ⟨h.os, h.tape, h.output, by simpa using h.size, fun k h1 h2 => (Below.heap_setCell _ _ _ _ (by omega)).trans (h.block k h1 h2)⟩

theorem row_setCell {w : World} {b : Nat} {t : TypeId} {n : Nat} {f : Nat → Value} (h : w.rowIs b t n f) (b' i : Nat) (v : Value) :
    (w.setCell ⟨b', i, .none⟩ v).rowIs b t n (fun j => if b = b' ∧ j = i then v else f j) := by
  by_cases e : b = b'
  · subst e
    exact (h.set i v).congr (fun j _ => by simp)
  · exact (h.setOther (a := ⟨b', i, .none⟩) e v).congr (fun j _ => by simp [e])

theorem row_set4 {w : World} {b : Nat} {t : TypeId} {n : Nat} {f g : Nat → Value} (h : w.rowIs b t n f) (b1 i1 b2 i2 b3 i3 b4 i4 : Nat) (v1 v2 v3 v4 : Value)
    (e : ∀ j, j < n → (if b = b4 ∧ j = i4 then v4 else if b = b3 ∧ j = i3 then v3 else if b = b2 ∧ j = i2 then v2 else if b = b1 ∧ j = i1 then v1 else f j) = g j) :
    ((((w.setCell ⟨b1, i1, .none⟩ v1).setCell ⟨b2, i2, .none⟩ v2).setCell ⟨b3, i3, .none⟩ v3).setCell ⟨b4, i4, .none⟩ v4).rowIs b t n g :=
  (row_setCell (row_setCell (row_setCell (row_setCell h b1 i1 v1) b2 i2 v2) b3 i3 v3) b4 i4 v4).congr e

theorem six (c : Nat) (h : c < 6) : c = 0 ∨ c = 1 ∨ c = 2 ∨ c = 3 ∨ c = 4 ∨ c = 5 := by omega
theorem two (c : Nat) (h : c < 2) : c = 0 ∨ c = 1 := by omega

theorem Mem.cell3 {w : World} {q B m : Nat} {s : St} (h : Mem w q B m s) {j : Nat} (hj : j < m) : w.cell? ⟨B + j, 3, .none⟩ = some (pt B (s.prev j)) := (h.node j hj).cell (i := 3) (by omega)
theorem Mem.cell4 {w : World} {q B m : Nat} {s : St} (h : Mem w q B m s) {j : Nat} (hj : j < m) : w.cell? ⟨B + j, 4, .none⟩ = some (pt B (s.next j)) := (h.node j hj).cell (i := 4) (by omega)
theorem Mem.cell1 {w : World} {q B m : Nat} {s : St} (h : Mem w q B m s) {j : Nat} (hj : j < m) : w.cell? ⟨B + j, 1, .none⟩ = some (.int .u64 ((j : Int) + 1)) := (h.node j hj).cell (i := 1) (by omega)
theorem Mem.q0 {w : World} {q B m : Nat} {s : St} (h : Mem w q B m s) : w.cell? ⟨q, 0, .none⟩ = some (pt B s.first) := h.own.cell (i := 0) (by omega)
theorem Mem.q1 {w : World} {q B m : Nat} {s : St} (h : Mem w q B m s) : w.cell? ⟨q, 1, .none⟩ = some (pt B s.last) := h.own.cell (i := 1) (by omega)

theorem ins_mem (q B m : Nat) (s : St) (w : World) (p : Option Nat) (k : Nat) (hM : Mem w q B m s) (hq : q < B) (hk : k < m)
    (hp : ∀ a, p = some a → a < m ∧ a ≠ k) (hx : ∀ x, s.nx p = some x → x < m ∧ x ≠ k ∧ p ≠ some x) :
    Calls Try.prog 8 #[P1 q, pt B p, P1 (B + k)] w fun e w' => e = .returned (.tuple #[]) ∧ Mem w' q B m (s.ins p k) ∧ Off q B w w' ∧ w'.heap.size = w.heap.size := by
  cases p with
  | none =>
    cases hn : s.first with
    | none =>
      have hnx : s.nx .none = .none := hn
      refine (ins_a q (B + k) w _ _ _ (by omega) (hM.cell3 hk) (hM.cell4 hk) (by rw [hM.q0, hn]; rfl) hM.q1 ((hM.node k hk).frozen 3) ((hM.node k hk).frozen 4) (hM.own.frozen 0) (hM.own.frozen 1)).mono ?_
      rintro e w' ⟨rfl, rfl⟩
      refine ⟨rfl, ⟨row_set4 hM.own _ _ _ _ _ _ _ _ _ _ _ _ ?_, fun j hj => row_set4 (hM.node j hj) _ _ _ _ _ _ _ _ _ _ _ _ ?_⟩, ((((Off.refl q B w).setCell (.inr (by simp)) _).setCell (.inr (by simp)) _).setCell (.inl rfl) _).setCell (.inl rfl) _, by simp⟩
      · intro c hc
        rcases two c hc with rfl | rfl <;> simp [qcell, St.ins, hnx, pt, P1]
      · intro c hc
        by_cases e1 : j = k
        · subst e1
          rcases six c hc with rfl | rfl | rfl | rfl | rfl | rfl <;> simp [wcell, St.ins, hnx, pt] <;> omega
        · have : B + j ≠ q := by omega
          simp [wcell, St.ins, hnx, e1, this]
    | some x =>
      have hnx : s.nx .none = some x := hn
      obtain ⟨x1, x2, _⟩ := hx x hnx
      refine (ins_b q (B + k) (B + x) w _ _ _ (by omega) (by omega) (by omega) (hM.cell3 hk) (hM.cell4 hk) (by rw [hM.q0, hn]; rfl) (hM.cell3 x1) ((hM.node k hk).frozen 3) ((hM.node k hk).frozen 4) (hM.own.frozen 0) ((hM.node x x1).frozen 3)).mono ?_
      rintro e w' ⟨rfl, rfl⟩
      refine ⟨rfl, ⟨row_set4 hM.own _ _ _ _ _ _ _ _ _ _ _ _ ?_, fun j hj => row_set4 (hM.node j hj) _ _ _ _ _ _ _ _ _ _ _ _ ?_⟩, ((((Off.refl q B w).setCell (.inr (by simp)) _).setCell (.inr (by simp)) _).setCell (.inl rfl) _).setCell (.inr (by simp)) _, by simp⟩
      · intro c hc
        have : q ≠ B + x := by omega
        rcases two c hc with rfl | rfl <;> simp [qcell, St.ins, hnx, pt, P1, this]
        all_goals (intro; omega)
      · intro c hc
        have : B + j ≠ q := by omega
        by_cases e1 : j = k
        · subst e1
          have : j ≠ x := by omega
          rcases six c hc with rfl | rfl | rfl | rfl | rfl | rfl <;> simp [wcell, St.ins, hnx, pt, *]
        · by_cases e2 : j = x
          · subst e2
            rcases six c hc with rfl | rfl | rfl | rfl | rfl | rfl <;> simp [wcell, St.ins, hnx, pt, *]
          · simp [wcell, St.ins, hnx, *]
  | some a =>
    obtain ⟨a1, a2⟩ := hp a rfl
    cases hn : s.next a with
    | none =>
      have hnx : s.nx (some a) = .none := hn
      refine (ins_c q (B + k) (B + a) w _ _ _ (by omega) (by omega) (by omega) (hM.cell3 hk) (hM.cell4 hk) (by rw [hM.cell4 a1, hn]; rfl) hM.q1 ((hM.node k hk).frozen 3) ((hM.node k hk).frozen 4) ((hM.node a a1).frozen 4) (hM.own.frozen 1)).mono ?_
      rintro e w' ⟨rfl, rfl⟩
      refine ⟨rfl, ⟨row_set4 hM.own _ _ _ _ _ _ _ _ _ _ _ _ ?_, fun j hj => row_set4 (hM.node j hj) _ _ _ _ _ _ _ _ _ _ _ _ ?_⟩, ((((Off.refl q B w).setCell (.inr (by simp)) _).setCell (.inr (by simp)) _).setCell (.inr (by simp)) _).setCell (.inl rfl) _, by simp⟩
      · intro c hc
        have : q ≠ B + a := by omega
        have : q ≠ B + k := by omega
        rcases two c hc with rfl | rfl <;> simp [qcell, St.ins, hnx, pt, P1, *]
      · intro c hc
        have : B + j ≠ q := by omega
        by_cases e1 : j = k
        · subst e1
          have : j ≠ a := by omega
          rcases six c hc with rfl | rfl | rfl | rfl | rfl | rfl <;> simp [wcell, St.ins, hnx, pt, *]
        · by_cases e2 : j = a
          · subst e2
            rcases six c hc with rfl | rfl | rfl | rfl | rfl | rfl <;> simp [wcell, St.ins, hnx, pt, *]
          · simp [wcell, St.ins, hnx, *]
    | some x =>
      have hnx : s.nx (some a) = some x := hn
      obtain ⟨x1, x2, x3⟩ := hx x hnx
      have hax : a ≠ x := fun h => x3 (by rw [h])
      refine (ins_d q (B + k) (B + a) (B + x) w _ _ _ (by omega) (by omega) (by omega) (by omega) (by omega) (hM.cell3 hk) (hM.cell4 hk) (by rw [hM.cell4 a1, hn]; rfl) (hM.cell3 x1) ((hM.node k hk).frozen 3) ((hM.node k hk).frozen 4) ((hM.node a a1).frozen 4) ((hM.node x x1).frozen 3)).mono ?_
      rintro e w' ⟨rfl, rfl⟩
      refine ⟨rfl, ⟨row_set4 hM.own _ _ _ _ _ _ _ _ _ _ _ _ ?_, fun j hj => row_set4 (hM.node j hj) _ _ _ _ _ _ _ _ _ _ _ _ ?_⟩, ((((Off.refl q B w).setCell (.inr (by simp)) _).setCell (.inr (by simp)) _).setCell (.inr (by simp)) _).setCell (.inr (by simp)) _, by simp⟩
      · intro c hc
        have : q ≠ B + a := by omega
        have : q ≠ B + k := by omega
        have : q ≠ B + x := by omega
        rcases two c hc with rfl | rfl <;> simp [qcell, St.ins, hnx, *]
      · intro c hc
        have : B + j ≠ q := by omega
        by_cases e1 : j = k
        · subst e1
          have : j ≠ a := by omega
          have : j ≠ x := by omega
          rcases six c hc with rfl | rfl | rfl | rfl | rfl | rfl <;> simp [wcell, St.ins, hnx, pt, *]
        · by_cases e2 : j = a
          · subst e2
            rcases six c hc with rfl | rfl | rfl | rfl | rfl | rfl <;> simp [wcell, St.ins, hnx, pt, *]
          · by_cases e3 : j = x
            · subst e3
              rcases six c hc with rfl | rfl | rfl | rfl | rfl | rfl <;> simp [wcell, St.ins, hnx, pt, *]
            · simp [wcell, St.ins, hnx, *]

end Go.Proofs.Qxb6613936a
