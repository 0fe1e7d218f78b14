import Derived.Test.Qxb6614206aSame
set_option linter.unusedVariables false
set_option linter.unusedSimpArgs false
namespace Go.Proofs.Qxb6614206a
open Go.RowKit

/-- A definition's block: no nodes, the edges v. -/
structure DefAt (W : World) (d : Nat) (v : Value) : Prop where
  c0 : W.cell? ⟨d, 0, .none⟩ = some (.slice .none 0 0)
  c1 : W.cell? ⟨d, 1, .none⟩ = some v
  lt : d < W.heap.size

theorem DefAt.mono {W W' : World} {d : Nat} {v : Value} (h : DefAt W d v) (hB : Below W.heap.size W W') : DefAt W' d v :=
  ⟨(hB.cell h.lt).trans h.c0, (hB.cell h.lt).trans h.c1, Nat.lt_of_lt_of_le h.lt hB.size⟩

theorem DefAt.new (W : World) (d : Nat) (v : Value) (hd : W.heap.size = d) : DefAt (W.alloc (.cells #[.slice .none 0 0, v] 31)) d v := by
  subst hd
  exact ⟨by simp, by simp, by simp⟩

theorem below_alloc (W : World) (o : Obj) : Below W.heap.size W (W.alloc o) := (Below.refl _ W).alloc (Nat.le_refl _) _

theorem defs3 (W : World) (v1 v2 v3 : Value) : 
    DefAt (((W.alloc (.cells #[.slice .none 0 0, v1] 31)).alloc (.cells #[.slice .none 0 0, v2] 31)).alloc (.cells #[.slice .none 0 0, v3] 31)) W.heap.size v1 ∧
    DefAt (((W.alloc (.cells #[.slice .none 0 0, v1] 31)).alloc (.cells #[.slice .none 0 0, v2] 31)).alloc (.cells #[.slice .none 0 0, v3] 31)) (W.heap.size + 1) v2 ∧
    DefAt (((W.alloc (.cells #[.slice .none 0 0, v1] 31)).alloc (.cells #[.slice .none 0 0, v2] 31)).alloc (.cells #[.slice .none 0 0, v3] 31)) (W.heap.size + 1 + 1) v3 ∧
    Below W.heap.size W (((W.alloc (.cells #[.slice .none 0 0, v1] 31)).alloc (.cells #[.slice .none 0 0, v2] 31)).alloc (.cells #[.slice .none 0 0, v3] 31)) :=
  ⟨((DefAt.new W _ v1 rfl).mono (below_alloc _ _)).mono (below_alloc _ _), (DefAt.new _ _ v2 (by simp)).mono (below_alloc _ _), DefAt.new _ _ v3 (by simp),
    (((Below.refl _ W).alloc (Nat.le_refl _) _).alloc (by simp) _).alloc (by simp; omega) _⟩

theorem out_split (id : ByteArray) (l : List Ed) (k : Nat) : outE id (l.take k) ++ outE id (l.drop k) = outE id l := by
  unfold outE
  rw [← List.filter_append, List.take_append_drop]

theorem out_place (l : List Ed) (j : Nat) (e : Ed) (he : l[j]? = some e) : (outE e.src l)[(outE e.src (l.take j)).length]? = some e := by
  have h := out_split e.src l j
  have hd : l.drop j = e :: l.drop (j + 1) := by
    have hj : j < l.length := by
      rcases Nat.lt_or_ge j l.length with h | h
      · exact h
      · rw [List.getElem?_eq_none h] at he; cases he
    rw [List.drop_eq_getElem_cons hj]
    rw [List.getElem?_eq_getElem hj] at he
    cases he; rfl
  rw [← h, List.getElem?_append_right (Nat.le_refl _), Nat.sub_self, hd]
  simp [outE, leaves]

end Go.Proofs.Qxb6614206a
