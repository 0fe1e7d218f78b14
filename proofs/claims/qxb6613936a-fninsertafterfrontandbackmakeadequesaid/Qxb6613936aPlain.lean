import Derived.Test.Qxb6613936aMem
set_option linter.unusedVariables false
set_option linter.unusedSimpArgs false
namespace Go.Proofs.Qxb6613936a

/-- The queue s is the list L of waiters. -/
structure Rep (L : List Nat) (s : St) : Prop where
  first : s.first = L[0]?
  last : s.last = L[L.length - 1]?
  next : ∀ p x, L[p]? = some x → s.next x = L[p + 1]?
  prev : ∀ p x, L[p]? = some x → s.prev x = if p = 0 then .none else L[p - 1]?
  inj : ∀ (p r : Nat) (x : Nat), L[p]? = some x → L[r]? = some x → p = r

/-- The waiter ahead of place p. -/
def atOf (L : List Nat) (p : Nat) : Option Nat := if p = 0 then .none else L[p - 1]?

theorem Rep.nx {L : List Nat} {s : St} (h : Rep L s) {p : Nat} (hp : p ≤ L.length) : s.nx (atOf L p) = L[p]? := by
  unfold atOf
  by_cases e : p = 0
  · subst e; simpa [St.nx] using h.first
  · rw [if_neg e]
    obtain ⟨a, ha⟩ : ∃ a, L[p - 1]? = some a := ⟨L[p - 1]'(by omega), List.getElem?_eq_getElem (by omega)⟩
    rw [ha]
    show s.next a = _
    rw [h.next _ _ ha]
    congr 1; omega

theorem ins_get (L : List Nat) (p k r : Nat) (hp : p ≤ L.length) : (L.insertIdx p k)[r]? = if r < p then L[r]? else if r = p then some k else L[r - 1]? := by
  rw [List.getElem?_insertIdx]
  split
  · rfl
  · split
    · rw [if_pos (by omega)]
    · rfl

theorem Rep.ins {L : List Nat} {s : St} (h : Rep L s) {p k : Nat} (hp : p ≤ L.length) (hk : ∀ r : Nat, L[r]? ≠ some k) : Rep (L.insertIdx p k) (s.ins (atOf L p) k) := by
  have hnx := h.nx hp
  have hlen : (L.insertIdx p k).length = L.length + 1 := by rw [List.length_insertIdx]; simp [hp]
  have hsome : ∀ r, r < L.length → ∃ x, L[r]? = some x := fun r hr => ⟨L[r], List.getElem?_eq_getElem hr⟩
  have hnone : ∀ r, L.length ≤ r → L[r]? = .none := fun r hr => List.getElem?_eq_none hr
  have hlt : ∀ r x, L[r]? = some x → r < L.length := fun r x hx => by
    rcases Nat.lt_or_ge r L.length with h | h
    · exact h
    · rw [hnone r h] at hx; cases hx
  refine ⟨?_, ?_, ?_, ?_, ?_⟩
  · rw [ins_get _ _ _ _ hp]
    show (if atOf L p = .none then some k else s.first) = _
    by_cases e : p = 0
    · subst e; simp [atOf]
    · obtain ⟨a, ha⟩ := hsome (p - 1) (by omega)
      rw [if_neg (show ¬ atOf L p = .none by simp [atOf, e, ha]), if_pos (show 0 < p by omega), h.first]
  · rw [ins_get _ _ _ _ hp, hlen]
    show (if s.nx (atOf L p) = .none then some k else s.last) = _
    rw [hnx]
    by_cases e : p = L.length
    · rw [if_pos (hnone _ (by omega)), if_neg (by omega), if_pos (by omega)]
    · obtain ⟨a, ha⟩ := hsome p (by omega)
      rw [if_neg (by simp [ha]), if_neg (by omega), if_neg (by omega), h.last]
      congr 1
  · intro r x hx
    rw [ins_get _ _ _ _ hp] at hx
    show (if x = k then s.nx (atOf L p) else if some x = atOf L p then some k else s.next x) = _
    rw [ins_get _ _ _ _ hp, hnx]
    by_cases h1 : r < p
    · rw [if_pos h1] at hx
      have hxk : x ≠ k := fun e => hk r (e ▸ hx)
      rw [if_neg hxk]
      by_cases h2 : r + 1 = p
      · have : some x = atOf L p := by unfold atOf; rw [if_neg (by omega), ← hx]; congr 1; omega
        rw [if_pos this, if_neg (by omega), if_pos h2]
      · have : some x ≠ atOf L p := by
          unfold atOf; rw [if_neg (by omega)]
          intro e
          have := h.inj _ _ _ hx e.symm
          omega
        rw [if_neg this, if_pos (by omega), h.next _ _ hx]
    · rw [if_neg h1] at hx
      by_cases h2 : r = p
      · rw [if_pos h2] at hx
        cases hx
        rw [if_pos rfl, if_neg (by omega), if_neg (by omega)]
        congr 1; omega
      · rw [if_neg h2] at hx
        have hxk : x ≠ k := fun e => hk _ (e ▸ hx)
        have : some x ≠ atOf L p := by
          unfold atOf
          split
          · simp
          · intro e
            have := h.inj _ _ _ hx e.symm
            omega
        rw [if_neg hxk, if_neg this, if_neg (by omega), if_neg (by omega), h.next _ _ hx]
        congr 1; omega
  · intro r x hx
    rw [ins_get _ _ _ _ hp] at hx
    show (if x = k then atOf L p else if some x = s.nx (atOf L p) then some k else s.prev x) = _
    rw [ins_get _ _ _ _ hp, hnx]
    by_cases h1 : r < p
    · rw [if_pos h1] at hx
      have hxk : x ≠ k := fun e => hk r (e ▸ hx)
      have : some x ≠ L[p]? := fun e => by have := h.inj _ _ _ hx e.symm; omega
      rw [if_neg hxk, if_neg this, h.prev _ _ hx, if_pos (show r - 1 < p by omega)]
    · rw [if_neg h1] at hx
      by_cases h2 : r = p
      · rw [if_pos h2] at hx
        cases hx
        subst h2
        rw [if_pos rfl]
        unfold atOf
        split
        · rfl
        · rw [if_pos (by omega)]
      · rw [if_neg h2] at hx
        have hxk : x ≠ k := fun e => hk _ (e ▸ hx)
        rw [if_neg hxk, if_neg (show ¬ r = 0 by omega), if_neg (show ¬ r - 1 < p by omega)]
        by_cases h3 : r - 1 = p
        · rw [if_pos (by rw [← hx, h3]), if_pos h3]
        · have : some x ≠ L[p]? := fun e => by have := h.inj _ _ _ hx e.symm; omega
          rw [if_neg this, if_neg h3, h.prev _ _ hx, if_neg (by omega)]
  · intro r r' x hx hx'
    rw [ins_get _ _ _ _ hp] at hx hx'
    split at hx <;> split at hx'
    · exact h.inj _ _ _ hx hx'
    · split at hx'
      · cases hx'; exact absurd hx (hk _)
      · have := h.inj _ _ _ hx hx'; omega
    · split at hx
      · cases hx; exact absurd hx' (hk _)
      · have := h.inj _ _ _ hx hx'; omega
    · split at hx <;> split at hx'
      · omega
      · cases hx; exact absurd hx' (hk _)
      · cases hx'; exact absurd hx (hk _)
      · have := h.inj _ _ _ hx hx'; omega

/-- What the slice of numbers holds at r. -/
def mv (L : List Nat) (r : Nat) : Int := match L[r]? with | some x => (x : Int) + 1 | .none => 0

theorem mv_ins (L : List Nat) (p k r : Nat) (hp : p ≤ L.length) : mv (L.insertIdx p k) r = if r = p then (k : Int) + 1 else if r ≤ p then mv L r else mv L (r - 1) := by
  unfold mv
  rw [ins_get _ _ _ _ hp]
  by_cases h1 : r < p
  · rw [if_pos h1, if_neg (by omega), if_pos (by omega)]
  · rw [if_neg h1]
    by_cases h2 : r = p
    · rw [if_pos h2, if_pos h2]
    · rw [if_neg h2, if_neg h2, if_neg (by omega)]

theorem mv_past (L : List Nat) (r : Nat) (h : L.length ≤ r) : mv L r = 0 := by
  unfold mv; rw [List.getElem?_eq_none h]

theorem mv_at (L : List Nat) (r x : Nat) (h : L[r]? = some x) : mv L r = (x : Int) + 1 := by
  unfold mv; rw [h]

theorem rep_nil : Rep [] ⟨.none, .none, fun _ => .none, fun _ => .none⟩ :=
  ⟨rfl, rfl, fun _ _ h => by simp at h, fun _ _ h => by simp at h, fun _ _ _ h => by simp at h⟩

end Go.Proofs.Qxb6613936a
