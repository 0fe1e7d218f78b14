import Derived.Test.Qxb6614206aFmtPlain
set_option linter.unusedVariables false
set_option linter.unusedSimpArgs false
namespace Go.Proofs.Qxb6614206aFmt

/-- How often v is yet to come. -/
def cnt (n : Nat) (rem : Nat → List Nat) (v : Nat) : Nat := ((List.range n).map (fun u => (rem u).count v)).sum

theorem cnt_succ (n : Nat) (rem : Nat → List Nat) (v : Nat) : cnt (n + 1) rem v = cnt n rem v + (rem n).count v := by
  simp [cnt, List.range_succ]

theorem cnt_congr {rem rem' : Nat → List Nat} {v : Nat} : ∀ (n : Nat), (∀ u, u < n → (rem u).count v = (rem' u).count v) → cnt n rem v = cnt n rem' v
  | 0, _ => rfl
  | n + 1, h => by rw [cnt_succ, cnt_succ, cnt_congr n (fun u hu => h u (by omega)), h n (by omega)]

theorem cnt_zero {rem : Nat → List Nat} {v : Nat} : ∀ (n : Nat), cnt n rem v = 0 ↔ ∀ u, u < n → v ∉ rem u
  | 0 => by simp [cnt]
  | n + 1 => by
    rw [cnt_succ, Nat.add_eq_zero_iff, cnt_zero n, List.count_eq_zero]
    constructor
    · rintro ⟨h1, h2⟩ u hu
      by_cases e : u = n
      · subst e; exact h2
      · exact h1 u (by omega)
    · exact fun h => ⟨fun u hu => h u (by omega), h n (by omega)⟩

def turn (rem : Nat → List Nat) (k : Nat) (l : List Nat) : Nat → List Nat := fun u => if u = k then l else rem u

/-- One taken off row k. -/
theorem cnt_take {rem : Nat → List Nat} {k x : Nat} {tl : List Nat} (hk : rem k = x :: tl) (v : Nat) : ∀ (n : Nat), k < n → cnt n rem v = cnt n (turn rem k tl) v + (if v = x then 1 else 0)
  | 0, h => by omega
  | n + 1, h => by
    rw [cnt_succ, cnt_succ]
    by_cases e : k = n
    · subst e
      rw [cnt_congr k (rem' := turn rem k tl) (fun u hu => by unfold turn; rw [if_neg (by omega)]), hk]
      simp only [turn, if_pos, List.count_cons]
      by_cases e : v = x
      · subst e; simp; omega
      · have : ¬ x = v := fun h => e h.symm
        simp [e, this]
    · rw [cnt_take hk v n (by omega)]
      have : turn rem k tl n = rem n := by unfold turn; rw [if_neg (by omega)]
      rw [this]
      omega

/-- One put at the end of row k. -/
theorem cnt_put {rem : Nat → List Nat} {k x : Nat} (v : Nat) : ∀ (n : Nat), k < n → cnt n (turn rem k (rem k ++ [x])) v = cnt n rem v + (if v = x then 1 else 0)
  | 0, h => by omega
  | n + 1, h => by
    rw [cnt_succ, cnt_succ]
    by_cases e : k = n
    · subst e
      rw [cnt_congr k (rem' := rem) (fun u hu => by unfold turn; rw [if_neg (by omega)])]
      simp only [turn, if_pos, List.count_append]
      by_cases e : v = x
      · subst e; simp; omega
      · have : ¬ x = v := fun h => e h.symm
        simp [e, this]
    · rw [cnt_put v n (by omega)]
      have : turn rem k (rem k ++ [x]) n = rem n := by unfold turn; rw [if_neg (by omega)]
      rw [this]
      omega

/-- v is led to by u. -/
def Led (n : Nat) (A : Nat → List Nat) (v u : Nat) : Prop := u < n ∧ v ∈ A u

/-- The state of the peeling. -/
structure Kahn (n : Nat) (A rem : Nat → List Nat) (q : List Nat) (I : Nat → Nat) : Prop where
  ind : ∀ v, v < n → I v = cnt n rem v
  nod : q.Nodup
  lt : ∀ v ∈ q, v < n
  zero : ∀ v, v < n → (v ∈ q ↔ I v = 0)
  out : ∀ u, u < n → u ∉ q → rem u = A u
  ord : Ordered (Led n A) q.reverse
  vals : ∀ u, u < n → ∀ v ∈ rem u, v < n

theorem Kahn.room {n : Nat} {A rem : Nat → List Nat} {q : List Nat} {I : Nat → Nat} (h : Kahn n A rem q I) : q.length ≤ n := by
  have := nodup_len q (List.range n) h.nod (fun x hx => List.mem_range.2 (h.lt x hx))
  simpa using this

/-- Where one is taken off and the count stays above naught. -/
theorem Kahn.keep {n : Nat} {A rem : Nat → List Nat} {q : List Nat} {I : Nat → Nat} (h : Kahn n A rem q I) {k x : Nat} {tl : List Nat} (hk : k < n) (hq : k ∈ q) (hr : rem k = x :: tl) (hx : I x ≠ 1) :
    Kahn n A (turn rem k tl) q (fun v => if v = x then I v - 1 else I v) where
  ind := fun v hv => by
    have h1 := cnt_take hr v n hk
    have h2 := h.ind v hv
    by_cases e : v = x
    · simp only [if_pos e] at h1 ⊢; omega
    · simp only [if_neg e] at h1 ⊢; omega
  nod := h.nod
  lt := h.lt
  zero := fun v hv => by
    by_cases e : v = x
    · subst e
      simp only [if_pos]
      have h1 := cnt_take hr v n hk
      have h2 := h.ind v hv
      simp only [if_pos] at h1
      rw [h.zero v hv]
      omega
    · simp only [if_neg e]; exact h.zero v hv
  out := fun u hu hn => by
    have : u ≠ k := fun e => hn (e ▸ hq)
    unfold turn; rw [if_neg this]; exact h.out u hu hn
  ord := h.ord
  vals := fun u hu v hv => by
    unfold turn at hv
    split at hv
    · exact h.vals k hk v (by rw [hr]; exact List.mem_cons_of_mem _ hv)
    · exact h.vals u hu v hv

theorem Kahn.push {n : Nat} {A rem : Nat → List Nat} {q : List Nat} {I : Nat → Nat} (h : Kahn n A rem q I) {k x : Nat} {tl : List Nat} (hk : k < n) (hq : k ∈ q) (hr : rem k = x :: tl) (hx : I x = 1) :
    Kahn n A (turn rem k tl) (q ++ [x]) (fun v => if v = x then I v - 1 else I v) := by
  have hxn : x < n := h.vals k hk x (by rw [hr]; exact List.mem_cons_self)
  have hxq : x ∉ q := fun hm => by have := (h.zero x hxn).1 hm; omega
  have hcnt : cnt n (turn rem k tl) x = 0 := by
    have h1 := cnt_take hr x n hk
    have h2 := h.ind x hxn
    simp only [if_pos] at h1
    omega
  refine { ind := ?_, nod := ?_, lt := ?_, zero := ?_, out := ?_, ord := ?_, vals := ?_ }
  · intro v hv
    have h1 := cnt_take hr v n hk
    have h2 := h.ind v hv
    by_cases e : v = x
    · simp only [if_pos e] at h1 ⊢; omega
    · simp only [if_neg e] at h1 ⊢; omega
  · exact List.nodup_append.2 ⟨h.nod, by simp, fun a ha b hb => by simp at hb; subst hb; exact fun e => hxq (e ▸ ha)⟩
  · intro v hv
    rcases List.mem_append.1 hv with h1 | h1
    · exact h.lt v h1
    · simp at h1; subst h1; exact hxn
  · intro v hv
    by_cases e : v = x
    · subst e; simp [hx]
    · simp only [if_neg e, List.mem_append, List.mem_singleton, e, or_false]; exact h.zero v hv
  · intro u hu hn
    have hn' : u ∉ q := fun hm => hn (List.mem_append_left _ hm)
    have : u ≠ k := fun e => hn' (e ▸ hq)
    unfold turn; rw [if_neg this]; exact h.out u hu hn'
  · rw [List.reverse_append]
    refine ⟨by simpa using hxq, fun u ⟨hu, hA⟩ => ?_, h.ord⟩
    rcases Classical.em (u ∈ q) with hm | hm
    · simpa using hm
    · exfalso
      have h1 := (cnt_zero n).1 hcnt u hu
      have : u ≠ k := fun e => hm (e ▸ hq)
      unfold turn at h1
      rw [if_neg this, h.out u hu hm] at h1
      exact h1 hA
  · intro u hu v hv
    unfold turn at hv
    split at hv
    · exact h.vals k hk v (by rw [hr]; exact List.mem_cons_of_mem _ hv)
    · exact h.vals u hu v hv

/-- The start: the nodes that nothing leads to. -/
theorem Kahn.start {n : Nat} {A : Nat → List Nat} {I : Nat → Nat} (hI : ∀ v, v < n → I v = cnt n A v) (hv : ∀ u, u < n → ∀ v ∈ A u, v < n) : Kahn n A A ((List.range n).filter (fun v => decide (I v = 0))) I where
  ind := hI
  nod := (List.nodup_range).filter _
  lt := fun v hv => List.mem_range.1 (List.mem_filter.1 hv).1
  zero := fun v hv => by simp [hv]
  out := fun _ _ _ => rfl
  ord := by
    have key : ∀ l : List Nat, l.Nodup → (∀ v ∈ l, v < n ∧ I v = 0) → Ordered (Led n A) l := by
      intro l
      induction l with
      | nil => intro _ _; trivial
      | cons x l ih =>
        intro h1 h2
        refine ⟨(List.nodup_cons.1 h1).1, fun u ⟨hu, hA⟩ => ?_, ih (List.nodup_cons.1 h1).2 (fun v hv => h2 v (List.mem_cons_of_mem _ hv))⟩
        have h3 := h2 x List.mem_cons_self
        have h4 := hI x h3.1
        rw [h3.2] at h4
        exact absurd hA ((cnt_zero n).1 h4.symm u hu)
    refine key _ (((List.reverse_perm _).nodup_iff).2 ((List.nodup_range).filter _)) (fun v hv => ?_)
    have := List.mem_filter.1 (List.mem_reverse.1 hv)
    exact ⟨List.mem_range.1 this.1, by simpa using this.2⟩
  vals := hv

/-- The end: all came. -/
theorem Kahn.full {n : Nat} {A rem : Nat → List Nat} {q : List Nat} {I : Nat → Nat} (h : Kahn n A rem q I) (hl : q.length = n) : ∃ r : Nat → Nat, ∀ u v, u < n → v < n → v ∈ A u → r v < r u := by
  obtain ⟨r, hr⟩ := h.ord.rank
  refine ⟨r, fun u v hu hv hA => hr v u ?_ ⟨hu, hA⟩⟩
  rw [List.mem_reverse]
  rcases Classical.em (v ∈ q) with hm | hm
  · exact hm
  · exfalso
    have := nodup_len (v :: q) (List.range n) (List.nodup_cons.2 ⟨hm, h.nod⟩) (fun x hx => by
      rcases List.mem_cons.1 hx with rfl | hx
      · exact List.mem_range.2 hv
      · exact List.mem_range.2 (h.lt x hx))
    simp at this
    omega

/-- The end: not all came. -/
theorem Kahn.short {n : Nat} {A rem : Nat → List Nat} {q : List Nat} {I : Nat → Nat} (h : Kahn n A rem q I) (hp : ∀ u ∈ q, rem u = []) (hl : q.length ≠ n) : ¬ ∃ r : Nat → Nat, ∀ u v, u < n → v < n → v ∈ A u → r u < r v := by
  rintro ⟨r, hr⟩
  have key : ∀ (m v : Nat), r v < m → v < n → v ∈ q := by
    intro m
    induction m with
    | zero => intro v h; omega
    | succ m ih =>
      intro v hm hv
      rcases Classical.em (v ∈ q) with hq | hq
      · exact hq
      · have h1 : I v ≠ 0 := fun e => hq ((h.zero v hv).2 e)
        rw [h.ind v hv] at h1
        have h2 : ∃ u, u < n ∧ v ∈ rem u := by
          rcases Classical.em (∃ u, u < n ∧ v ∈ rem u) with h3 | h3
          · exact h3
          · exact absurd ((cnt_zero n).2 (fun u hu hm => h3 ⟨u, hu, hm⟩)) h1
        obtain ⟨u, hu, hvu⟩ := h2
        have huq : u ∉ q := fun hm => by rw [hp u hm] at hvu; simp at hvu
        have hA : v ∈ A u := by rw [← h.out u hu huq]; exact hvu
        exact absurd (ih u (by have := hr u v hu hv hA; omega) hu) huq
  have h1 := h.room
  have h2 := nodup_len (List.range n) q List.nodup_range (fun v hv => key (r v + 1) v (by omega) (List.mem_range.1 hv))
  simp at h2
  omega

end Go.Proofs.Qxb6614206aFmt
