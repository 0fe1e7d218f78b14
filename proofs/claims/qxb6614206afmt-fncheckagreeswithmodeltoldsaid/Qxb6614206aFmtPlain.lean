import Derived.Test.Qxb6614206aFmtMap
set_option linter.unusedVariables false
set_option linter.unusedSimpArgs false
namespace Go.Proofs.Qxb6614206aFmt

/-- An edge. -/
structure Ed where
  id : ByteArray
  src : ByteArray
  dst : ByteArray
  err : Bool

/-- No cycle: some rank rises along each edge. -/
def Acyc (E : List Ed) : Prop := ∃ r : ByteArray → Nat, ∀ e ∈ E, r e.src < r e.dst

def outE (id : ByteArray) (l : List Ed) : List Ed := l.filter (fun e => decide (e.src = id))

def Rel (E : List Ed) (x y : ByteArray) : Prop := ∃ e ∈ E, e.src = x ∧ e.dst = y

/-- Newest first: whatever R leads to from a member stands behind it. -/
def Ordered {α : Type} (R : α → α → Prop) : List α → Prop
  | [] => True
  | x :: l => x ∉ l ∧ (∀ y, R x y → y ∈ l) ∧ Ordered R l

theorem Ordered.closed {α : Type} {R : α → α → Prop} : ∀ {l : List α}, Ordered R l → ∀ x y, x ∈ l → R x y → y ∈ l
  | x :: l, h, a, b, ha, hR => by
    rcases List.mem_cons.1 ha with rfl | ha
    · exact List.mem_cons_of_mem _ (h.2.1 b hR)
    · exact List.mem_cons_of_mem _ (Ordered.closed h.2.2 a b ha hR)

theorem Ordered.rank {α : Type} [DecidableEq α] {R : α → α → Prop} : ∀ {l : List α}, Ordered R l → ∃ r : α → Nat, ∀ x y, x ∈ l → R x y → r x < r y
  | [], _ => ⟨fun _ => 0, fun x y h => by simp at h⟩
  | x :: l, h => by
    obtain ⟨r, hr⟩ := Ordered.rank h.2.2
    refine ⟨fun y => if y = x then 0 else r y + 1, fun a b ha hR => ?_⟩
    have hb : b ∈ l := by
      rcases List.mem_cons.1 ha with rfl | ha
      · exact h.2.1 b hR
      · exact Ordered.closed h.2.2 a b ha hR
    have hbx : b ≠ x := fun e => h.1 (e ▸ hb)
    simp only [if_neg hbx]
    by_cases hax : a = x
    · simp only [if_pos hax]; omega
    · simp only [if_neg hax]
      rcases List.mem_cons.1 ha with e | ha
      · exact absurd e hax
      · have := hr a b ha hR; omega

theorem acyc_of_ordered {E : List Ed} {l : List ByteArray} (h : Ordered (Rel E) l) (hs : ∀ e ∈ E, e.src ∈ l) : Acyc E := by
  obtain ⟨r, hr⟩ := h.rank
  exact ⟨r, fun e he => hr _ _ (hs e he) ⟨e, he, rfl, rfl⟩⟩

theorem le_sum (f : Ed → Nat) : ∀ (E : List Ed) (e : Ed), e ∈ E → f e ≤ (E.map f).sum
  | a :: E, e, h => by
    rcases List.mem_cons.1 h with rfl | h
    · simp
    · have := le_sum f E e h
      simp only [List.map_cons, List.sum_cons]
      omega

theorem acyc_of_down {E : List Ed} (h : ∃ r : ByteArray → Nat, ∀ e ∈ E, r e.dst < r e.src) : Acyc E := by
  obtain ⟨r, hr⟩ := h
  refine ⟨fun x => (E.map (fun e => r e.src)).sum - r x, fun e he => ?_⟩
  have h1 := hr e he
  have h2 := le_sum (fun e => r e.src) E e he
  simp only at h2 ⊢
  omega

/-- Top first: each is led to by the one behind it. -/
def Chain {α : Type} (R : α → α → Prop) : List α → Prop
  | [] => True
  | x :: l => (∀ y, l.head? = some y → R y x) ∧ Chain R l

theorem Chain.le {α : Type} {R : α → α → Prop} (r : α → Nat) (hr : ∀ a b, R a b → r a < r b) : ∀ (l : List α) (x : α), Chain R (x :: l) → ∀ y ∈ x :: l, r y ≤ r x
  | [], x, _, y, hy => by simp at hy; subst hy; exact Nat.le_refl _
  | z :: l, x, h, y, hy => by
    rcases List.mem_cons.1 hy with rfl | hy
    · exact Nat.le_refl _
    · have h1 := Chain.le r hr l z h.2 y hy
      have h2 := hr z x (h.1 z rfl)
      omega

theorem not_acyc {E : List Ed} {l : List ByteArray} {x : ByteArray} (h : Chain (Rel E) (x :: l)) {e : Ed} (he : e ∈ E) (hs : e.src = x) (hd : e.dst ∈ x :: l) : ¬ Acyc E := by
  rintro ⟨r, hr⟩
  have h1 := Chain.le r (fun a b ⟨e, he, ha, hb⟩ => by rw [← ha, ← hb]; exact hr e he) l x h _ hd
  have h2 := hr e he
  rw [hs] at h2
  omega

/-- The edges that were followed lead to done nodes, but for the last, which leads to the node above. -/
def Taken (E : List Ed) (fin : List ByteArray) : Option ByteArray → List (ByteArray × Nat) → Prop
  | _, [] => True
  | above, (x, j) :: rest => j ≤ (outE x E).length ∧ (∀ e ∈ (outE x E).take j, e.dst ∈ fin ∨ some e.dst = above) ∧ Taken E fin (some x) rest

theorem Taken.done {E : List Ed} {fin : List ByteArray} {x : ByteArray} : ∀ {st : List (ByteArray × Nat)}, Taken E fin (some x) st → Taken E (x :: fin) none st
  | [], _ => trivial
  | (y, j) :: rest, h => by
    refine ⟨h.1, fun e he => .inl ?_, ?_⟩
    · rcases h.2.1 e he with h1 | h1
      · exact List.mem_cons_of_mem _ h1
      · simp only [Option.some.injEq] at h1; rw [h1]; exact List.mem_cons_self
    · exact more h.2.2
where
  more {y : ByteArray} {above : Option ByteArray} : ∀ {st : List (ByteArray × Nat)}, Taken E fin above st → Taken E (y :: fin) above st
    | [], _ => trivial
    | (z, j) :: rest, h => ⟨h.1, fun e he => (h.2.1 e he).elim (fun h5 => .inl (List.mem_cons_of_mem _ h5)) .inr, more h.2.2⟩

/-- The walk's state. -/
structure Dfs (E : List Ed) (ids : List ByteArray) (st : List (ByteArray × Nat)) (fin : List ByteArray) : Prop where
  ord : Ordered (Rel E) fin
  chain : Chain (Rel E) (st.map Prod.fst)
  nod : (st.map Prod.fst ++ fin).Nodup
  sub : ∀ x ∈ st.map Prod.fst ++ fin, x ∈ ids
  tk : Taken E fin none st

theorem nodup_len {α : Type} [DecidableEq α] : ∀ (l m : List α), l.Nodup → (∀ x ∈ l, x ∈ m) → l.length ≤ m.length
  | [], m, _, _ => Nat.zero_le _
  | x :: l, m, hn, hs => by
    have hx : x ∈ m := hs x List.mem_cons_self
    have h := nodup_len l (m.erase x) (List.nodup_cons.1 hn).2 (fun y hy => by
      have : y ≠ x := fun e => (List.nodup_cons.1 hn).1 (e ▸ hy)
      exact (List.mem_erase_of_ne this).2 (hs y (List.mem_cons_of_mem _ hy)))
    rw [List.length_erase_of_mem hx] at h
    have := List.length_pos_of_mem hx
    simp only [List.length_cons]
    omega

def todo (E : List Ed) (st : List (ByteArray × Nat)) : Nat := (st.map (fun p => (outE p.1 E).length - p.2 + 1)).sum
def pot (E : List Ed) (ids : List ByteArray) (st : List (ByteArray × Nat)) (fin : List ByteArray) : Nat := (ids.length - fin.length - st.length) * (E.length + 2) + todo E st

theorem Dfs.room {E : List Ed} {ids : List ByteArray} {st : List (ByteArray × Nat)} {fin : List ByteArray} (h : Dfs E ids st fin) : st.length + fin.length ≤ ids.length := by
  have := nodup_len _ _ h.nod h.sub
  simpa using this

theorem Dfs.root {E : List Ed} {ids fin : List ByteArray} (h : Dfs E ids [] fin) {x : ByteArray} (hx : x ∈ ids) (hf : x ∉ fin) : Dfs E ids [(x, 0)] fin where
  ord := h.ord
  chain := ⟨fun y hy => by simp at hy, trivial⟩
  nod := by
    have := h.nod
    simp only [List.map_nil, List.nil_append] at this
    simpa using ⟨hf, this⟩
  sub := fun y hy => by
    simp only [List.map_cons, List.map_nil, List.cons_append, List.nil_append, List.mem_cons] at hy
    rcases hy with rfl | hy
    · exact hx
    · exact h.sub y (by simpa using hy)
  tk := ⟨Nat.zero_le _, fun e he => by simp at he, trivial⟩

theorem Dfs.pop {E : List Ed} {ids fin : List ByteArray} {x : ByteArray} {j : Nat} {rest : List (ByteArray × Nat)} (h : Dfs E ids ((x, j) :: rest) fin) (hj : j = (outE x E).length) : Dfs E ids rest (x :: fin) where
  ord := by
    have hn := h.nod
    simp only [List.map_cons, List.cons_append, List.nodup_cons, List.mem_append, not_or] at hn
    refine ⟨hn.1.2, fun y ⟨e, he, hs, hd⟩ => ?_, h.ord⟩
    have := h.tk.2.1 e (by rw [hj, List.take_length]; exact List.mem_filter.2 ⟨he, by simpa using hs⟩)
    rcases this with h1 | h1
    · rw [← hd]; exact h1
    · cases h1
  chain := h.chain.2
  nod := by
    have hn := h.nod
    simp only [List.map_cons, List.cons_append] at hn
    exact (List.perm_middle.nodup_iff).2 hn
  sub := fun y hy => h.sub y (by
    simp only [List.mem_append, List.mem_cons, List.map_cons, List.cons_append] at hy ⊢
    rcases hy with h | h | h
    · exact .inr (.inl h)
    · exact .inl h
    · exact .inr (.inr h))
  tk := h.tk.2.2.done

theorem Dfs.skip {E : List Ed} {ids fin : List ByteArray} {x : ByteArray} {j : Nat} {rest : List (ByteArray × Nat)} (h : Dfs E ids ((x, j) :: rest) fin) {e : Ed} (he : (outE x E)[j]? = some e) (hd : e.dst ∈ fin) : Dfs E ids ((x, j + 1) :: rest) fin where
  ord := h.ord
  chain := h.chain
  nod := h.nod
  sub := h.sub
  tk := by
    have hlt : j < (outE x E).length := (List.getElem?_eq_some_iff.1 he).1
    refine ⟨hlt, fun e' he' => ?_, h.tk.2.2⟩
    rw [List.take_add_one, he] at he'
    rcases List.mem_append.1 he' with h1 | h1
    · exact h.tk.2.1 e' h1
    · simp at h1; subst h1; exact .inl hd

theorem Dfs.push {E : List Ed} {ids fin : List ByteArray} {x : ByteArray} {j : Nat} {rest : List (ByteArray × Nat)} (h : Dfs E ids ((x, j) :: rest) fin) {e : Ed} (he : (outE x E)[j]? = some e) (hd : e.dst ∉ fin) (hp : e.dst ∉ ((x, j) :: rest).map Prod.fst) (hi : e.dst ∈ ids) :
    Dfs E ids ((e.dst, 0) :: (x, j + 1) :: rest) fin where
  ord := h.ord
  chain := ⟨fun y hy => by
    simp at hy
    subst hy
    have hm := List.mem_of_getElem? he
    have := List.mem_filter.1 hm
    exact ⟨e, this.1, by simpa using this.2, rfl⟩, h.chain⟩
  nod := by
    have hn := h.nod
    simp only [List.map_cons, List.cons_append] at hn hp ⊢
    refine List.nodup_cons.2 ⟨?_, hn⟩
    simp only [List.mem_cons, List.mem_append, not_or] at hp ⊢
    exact ⟨hp.1, hp.2, hd⟩
  sub := fun y hy => by
    simp only [List.map_cons, List.cons_append, List.mem_cons] at hy
    rcases hy with rfl | hy
    · exact hi
    · exact h.sub y (by simpa using hy)
  tk := by
    have hlt : j < (outE x E).length := (List.getElem?_eq_some_iff.1 he).1
    refine ⟨Nat.zero_le _, fun e he => by simp at he, hlt, fun e' he' => ?_, h.tk.2.2⟩
    rw [List.take_add_one, he] at he'
    rcases List.mem_append.1 he' with h1 | h1
    · rcases h.tk.2.1 e' h1 with h2 | h2
      · exact .inl h2
      · cases h2
    · simp at h1; subst h1; exact .inr rfl

theorem Dfs.found {E : List Ed} {ids fin : List ByteArray} {x : ByteArray} {j : Nat} {rest : List (ByteArray × Nat)} (h : Dfs E ids ((x, j) :: rest) fin) {e : Ed} (he : (outE x E)[j]? = some e) (hp : e.dst ∈ ((x, j) :: rest).map Prod.fst) : ¬ Acyc E := by
  have hm := List.mem_filter.1 (List.mem_of_getElem? he)
  exact not_acyc h.chain hm.1 (by simpa using hm.2) hp

theorem out_le (E : List Ed) (x : ByteArray) : (outE x E).length ≤ E.length := List.length_filter_le _ _

theorem pot_root {E : List Ed} {ids fin : List ByteArray} {x : ByteArray} (h : Dfs E ids [(x, 0)] fin) : pot E ids [(x, 0)] fin < pot E ids [] fin := by
  have h1 := h.room
  have h2 := out_le E x
  simp only [pot, todo, List.map_cons, List.map_nil, List.sum_cons, List.sum_nil, List.length_cons, List.length_nil] at *
  obtain ⟨d, hd⟩ : ∃ d, ids.length - fin.length - 0 = d + 1 := ⟨ids.length - fin.length - 1, by omega⟩
  have : ids.length - fin.length - (0 + 1) = d := by omega
  rw [hd, this, Nat.add_mul]
  omega

theorem pot_pop {E : List Ed} {ids fin : List ByteArray} {x : ByteArray} {j : Nat} {rest : List (ByteArray × Nat)} : pot E ids rest (x :: fin) < pot E ids ((x, j) :: rest) fin := by
  simp only [pot, todo, List.map_cons, List.sum_cons, List.length_cons]
  have : ids.length - (fin.length + 1) - rest.length = ids.length - fin.length - (rest.length + 1) := by omega
  rw [this]
  omega

theorem pot_skip {E : List Ed} {ids fin : List ByteArray} {x : ByteArray} {j : Nat} {rest : List (ByteArray × Nat)} {e : Ed} (he : (outE x E)[j]? = some e) : pot E ids ((x, j + 1) :: rest) fin < pot E ids ((x, j) :: rest) fin := by
  have hlt : j < (outE x E).length := (List.getElem?_eq_some_iff.1 he).1
  simp only [pot, todo, List.map_cons, List.sum_cons, List.length_cons]
  omega

theorem pot_push {E : List Ed} {ids fin : List ByteArray} {x y : ByteArray} {j : Nat} {rest : List (ByteArray × Nat)} {e : Ed} (he : (outE x E)[j]? = some e) (h : Dfs E ids ((y, 0) :: (x, j + 1) :: rest) fin) : pot E ids ((y, 0) :: (x, j + 1) :: rest) fin < pot E ids ((x, j) :: rest) fin := by
  have hlt : j < (outE x E).length := (List.getElem?_eq_some_iff.1 he).1
  have h1 := h.room
  have h2 := out_le E y
  simp only [pot, todo, List.map_cons, List.sum_cons, List.length_cons] at *
  obtain ⟨d, hd⟩ : ∃ d, ids.length - fin.length - (rest.length + 1) = d + 1 := ⟨ids.length - fin.length - (rest.length + 1) - 1, by omega⟩
  have : ids.length - fin.length - (rest.length + 1 + 1) = d := by omega
  rw [hd, this, Nat.add_mul]
  omega

end Go.Proofs.Qxb6614206aFmt
