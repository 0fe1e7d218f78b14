import Derived.Test.Qxb6614206aFmtPath
set_option linter.unusedVariables false
set_option linter.unusedSimpArgs false
namespace Go.Proofs.Qxb6614206aFmt
open Go.RowKit

/-- Is s among l? -/
def isIn (s : ByteArray) (l : List ByteArray) : Bool := l.any (fun x => decide (x = s))

theorem isIn_iff (s : ByteArray) (l : List ByteArray) : isIn s l = true ↔ s ∈ l := by
  simp [isIn]

theorem isIn_true {s : ByteArray} {l : List ByteArray} (h : s ∈ l) : isIn s l = true := (isIn_iff s l).2 h
theorem isIn_false {s : ByteArray} {l : List ByteArray} (h : s ∉ l) : isIn s l = false := by
  cases hb : isIn s l with
  | false => rfl
  | true => exact absurd ((isIn_iff s l).1 hb) h

/-- A map of flags that reads as membership in l. -/
def FlagM (w : World) (m c : Nat) (l : List ByteArray) : Prop := ∃ f, VM w m c f ∧ ∀ s, (f s).getD (.bool false) = .bool (isIn s l)

theorem FlagM.of_block {w w' : World} {m c : Nat} {l : List ByteArray} (h : FlagM w m c l) (e : w'.heap[m]? = w.heap[m]?) : FlagM w' m c l := by
  obtain ⟨f, h1, h2⟩ := h
  exact ⟨f, h1.of_block e, h2⟩

theorem FlagM.lt {w : World} {m c : Nat} {l : List ByteArray} (h : FlagM w m c l) : m < w.heap.size := by
  obtain ⟨f, h1, h2⟩ := h
  exact h1.lt

theorem FlagM.mono {w : World} {m c c' : Nat} {l : List ByteArray} (h : FlagM w m c l) (hc : c ≤ c') : FlagM w m c' l := by
  obtain ⟨f, h1, h2⟩ := h
  exact ⟨f, h1.mono hc, h2⟩

theorem FlagM.made (w : World) : FlagM (w.alloc (.map #[] 0)) w.heap.size 0 [] := ⟨_, VM.made w, fun s => by simp [isIn]⟩

theorem zero4 (w : World) : (zeroValue 4).run Tryf.prog w = .ok (.bool false) w := by kernel_rfl

theorem FlagM.look {w : World} {m c : Nat} {l : List ByteArray} (h : FlagM w m c l) (s : ByteArray) (hs : s.size ≤ maxLen) : (Instr.lookup 70 (.map (some m)) (.string s) false).run Tryf.prog w = .ok (.bool (isIn s l)) w := by
  obtain ⟨f, h1, h2⟩ := h
  rw [h1.look Tryf.underlying70 (zero4 w) s hs, h2]

theorem FlagM.on {w : World} {m c : Nat} {l : List ByteArray} (h : FlagM w m c l) (s : ByteArray) (hs : s.size ≤ maxLen) (hc : c < maxLen) :
    ∃ w', (Instr.mapUpdate 70 (.map (some m)) (.string s) (.bool true)).run Tryf.prog w = .ok () w' ∧ FlagM w' m (c + 1) (s :: l) ∧ w.grownBy w' (some m) := by
  obtain ⟨f, h1, h2⟩ := h
  obtain ⟨w', r, h3, h4⟩ := h1.update Tryf.underlying70 hc s hs (.bool true)
  refine ⟨w', r, ⟨_, h3, fun t => ?_⟩, h4⟩
  unfold upd
  by_cases e : t = s
  · rw [if_pos e, isIn_true (by rw [e]; exact List.mem_cons_self)]
    rfl
  · rw [if_neg e, h2 t]
    congr 1
    rw [Bool.eq_iff_iff, isIn_iff, isIn_iff, List.mem_cons]
    simp [e]

/-- 'm[s], .. = b, ..': off where b is false. -/
theorem FlagM.entry {w : World} {m c : Nat} {l l' : List ByteArray} (h : FlagM w m c l) (s : ByteArray) (b : Bool) (hs : s.size ≤ maxLen) (hc : c < maxLen) (hl : ∀ t, (t ∈ l') ↔ (if t = s then b = true else t ∈ l)) :
    ∃ (o : Obj) (v0 : Value) (st : Nat) (o1 o2 : Obj), w.heap[m]? = some o ∧
      (∀ u : World, u.heap[m]? = some o → (Instr.mapEntry 70 (.map (some m)) (.string s)).run Tryf.prog u = .ok (.tuple #[v0, goInt st]) (ChangeMaps.setBlock u m o1)) ∧
      (∀ u : World, u.heap[m]? = some o1 → (Instr.entryStore 70 (.map (some m)) (goInt st) (.bool b)).run Tryf.prog u = .ok () (ChangeMaps.setBlock u m o2)) ∧
      (∀ u : World, u.heap[m]? = some o2 → FlagM u m (c + 1) l') := by
  obtain ⟨f, h1, h2⟩ := h
  obtain ⟨o, v0, st, o1, o2, k0, k1, k2, k3⟩ := h1.entry Tryf.underlying70 zero4 hc s hs (.bool b)
  refine ⟨o, v0, st, o1, o2, k0, k1, k2, fun u hu => ⟨_, k3 u hu, fun t => ?_⟩⟩
  have hlt := hl t
  unfold upd
  by_cases e : t = s
  · rw [if_pos e] at hlt ⊢
    simp only [Option.getD_some, Value.bool.injEq]
    rw [Bool.eq_iff_iff, isIn_iff]
    exact hlt.symm
  · rw [if_neg e] at hlt ⊢
    rw [h2 t]
    congr 1
    rw [Bool.eq_iff_iff, isIn_iff, isIn_iff]
    exact hlt.symm

/-- The memory of the walk over the graph. w2: the world behind 'outgoingByNode'; c bounds the maps' entries. -/
structure Cm (w2 wr : World) (st : List (ByteArray × Nat)) (fin : List ByteArray) (v : Value) (c : Nat) : Prop where
  path : PathAt wr (w2.heap.size + 2) v st
  onp : FlagM wr w2.heap.size c (st.map Prod.fst)
  don : FlagM wr (w2.heap.size + 1) c fin
  bel : Below w2.heap.size w2 wr

theorem Cm.start (w2 : World) : Cm w2 ((w2.alloc (.map #[] 0)).alloc (.map #[] 0)) [] [] (.slice .none 0 0) 0 where
  path := PathAt.made _ _
  onp := (FlagM.made w2).of_block (Below.heap_alloc _ _ _ (by simp))
  don := by have := FlagM.made (w2.alloc (.map #[] 0)); simpa using this
  bel := ((Below.refl _ w2).alloc (Nat.le_refl _) _).alloc (by simp) _

variable {w2 wr : World} {st : List (ByteArray × Nat)} {fin : List ByteArray} {v : Value} {c : Nat}

theorem Cm.lt (h : Cm w2 wr st fin v c) : w2.heap.size + 1 < wr.heap.size := h.don.lt

theorem Cm.keep {wr' : World} (h : Cm w2 wr st fin v c) (hB : Below wr.heap.size wr wr') : Cm w2 wr' st fin v c where
  path := h.path.kept (fun j _ hj => hB.block j hj)
  onp := h.onp.of_block (hB.block _ h.onp.lt)
  don := h.don.of_block (hB.block _ h.don.lt)
  bel := h.bel.trans (hB.mono h.bel.size)

theorem grown_below {a b : World} (h : a.grownBy b .none) : Below a.heap.size a b := ⟨h.os, h.tape, h.output, h.size, fun k hk => h.block k hk (by simp)⟩

/-- One more on the path. -/
theorem Cm.push {wa w3 : World} {x : ByteArray} {g cap : Nat} (h : Cm w2 wr st fin v c) (hA : wr.grownBy wa .none) (hown : w3.ownsRow (w2.heap.size + 2) 85 2 (.slice (some ⟨g, 0, .none⟩) (st.length + 1) cap) (st.length + 1) (st.reverse.flatMap stc ++ [.string x, .int .i64 0]))
    (hg : wa.grownBy w3 v.ownBlock) (hx : x.size ≤ maxLen) (hc : c < maxLen) :
    ∃ w4, (Instr.mapUpdate 70 (.map (some w2.heap.size)) (.string x) (.bool true)).run Tryf.prog w3 = .ok () w4 ∧ Cm w2 w4 ((x, 0) :: st) fin (.slice (some ⟨g, 0, .none⟩) (st.length + 1) cap) (c + 1) := by
  have ha := h.keep (grown_below hA)
  have hvb : ∀ k, v.ownBlock = some k → w2.heap.size + 2 ≤ k := fun k hk => (World.ownsRow.lt ha.path k hk).1
  have hlt := ha.lt
  have o3 : FlagM w3 w2.heap.size c (st.map Prod.fst) := ha.onp.of_block (hg.block _ ha.onp.lt (fun e => by have := hvb _ e.symm; omega))
  have d3 : FlagM w3 (w2.heap.size + 1) c fin := ha.don.of_block (hg.block _ ha.don.lt (fun e => by have := hvb _ e.symm; omega))
  obtain ⟨w4, r, o4, g4⟩ := o3.on x hx hc
  have hs3 : wa.heap.size ≤ w3.heap.size := hg.size
  refine ⟨w4, r, ?_, o4, ?_, ?_⟩
  · exact (PathAt.push hown).kept (fun j hj hj2 => g4.block j hj2 (fun e => by injection e with e; omega))
  · exact (d3.of_block (g4.block _ d3.lt (fun e => by injection e with e; omega))).mono (by omega)
  · have b3 : Below w2.heap.size w2 w3 := ha.bel.grown hg (by omega) (fun k hk => by have := hvb k hk; omega)
    exact b3.grown g4 (by omega) (fun k hk => by injection hk with hk; omega)

/-- The top's next edge. -/
theorem Cm.next {x : ByteArray} {j : Nat} {g cap : Nat} (h : Cm w2 wr ((x, j) :: st) fin (.slice (some ⟨g, 0, .none⟩) (st.length + 1) cap) c) : Cm w2 (wr.setCell ⟨g, st.length * 2 + 1, .none⟩ (.int .i64 ((j + 1 : Nat) : Int))) ((x, j + 1) :: st) fin (.slice (some ⟨g, 0, .none⟩) (st.length + 1) cap) c := by
  obtain ⟨g', cap', hv, hb, _, _, _, _, _, _, _, hset⟩ := h.path.top
  simp only [Value.slice.injEq, Option.some.injEq, Addr.mk.injEq, and_true, true_and] at hv
  obtain ⟨rfl, rfl⟩ := hv
  refine ⟨hset (j + 1), h.onp.of_block (Below.heap_setCell _ _ _ _ (by simp; omega)), h.don.of_block (Below.heap_setCell _ _ _ _ (by simp; omega)), h.bel.setCell (by simp; omega) _⟩


open Go.ChangeMaps in
theorem sb_same {u : World} {m : Nat} {o' : Obj} (hb : u.heap[m]? = some o') (o : Obj) : (setBlock u m o).heap[m]? = some o := by
  have := (Array.getElem?_eq_some_iff.1 hb).1
  simp [setBlock, this]

open Go.ChangeMaps in
theorem sb_other {u : World} {m : Nat} (o : Obj) {i : Nat} (h : i ≠ m) : (setBlock u m o).heap[i]? = u.heap[i]? := by
  simp [setBlock, Array.getElem?_setIfInBounds, Ne.symm h]

open Go.ChangeMaps in
theorem set_size (u : World) (m : Nat) (o : Obj) : (setBlock u m o).heap.size = u.heap.size := by simp [setBlock]

open Go.ChangeMaps in
/-- The top is done. -/
theorem Cm.pop {x : ByteArray} {j : Nat} {g cap : Nat} (h : Cm w2 wr ((x, j) :: st) fin (.slice (some ⟨g, 0, .none⟩) (st.length + 1) cap) c) (hx : x.size ≤ maxLen) (hc : c < maxLen) (hn : x ∉ st.map Prod.fst) :
    ∃ (u1 u2 u3 u4 : World) (v0 v1 : Value) (s0 s1 : Nat), (Instr.mapEntry 70 (.map (some w2.heap.size)) (.string x)).run Tryf.prog wr = .ok (.tuple #[v0, .int .i64 (s0 : Int)]) u1 ∧
      (Instr.entryStore 70 (.map (some w2.heap.size)) (.int .i64 (s0 : Int)) (.bool false)).run Tryf.prog u1 = .ok () u2 ∧
      (Instr.mapEntry 70 (.map (some (w2.heap.size + 1))) (.string x)).run Tryf.prog u2 = .ok (.tuple #[v1, .int .i64 (s1 : Int)]) u3 ∧
      (Instr.entryStore 70 (.map (some (w2.heap.size + 1))) (.int .i64 (s1 : Int)) (.bool true)).run Tryf.prog u3 = .ok () u4 ∧
      u1.cell? ⟨g, st.length * 2, .none⟩ = some (.string x) ∧ u2.cell? ⟨g, st.length * 2, .none⟩ = some (.string x) ∧ u3.cell? ⟨g, st.length * 2, .none⟩ = some (.string x) ∧ u4.cell? ⟨g, st.length * 2, .none⟩ = some (.string x) ∧
      Cm w2 u4 st (x :: fin) (.slice (some ⟨g, 0, .none⟩) st.length cap) (c + 1) := by
  obtain ⟨g', cap', hv, hgb, hglt, hcap, c0, _, _, _, hpop, _⟩ := h.path.top
  simp only [Value.slice.injEq, Option.some.injEq, Addr.mk.injEq, and_true, true_and] at hv
  obtain ⟨rfl, rfl⟩ := hv
  obtain ⟨o, v0, s0, o1, o2, k0, k1, k2, k3⟩ := h.onp.entry (l' := st.map Prod.fst) x false hx hc (fun t => by
    by_cases e : t = x
    · subst e; simp; simpa using hn
    · simp [e])
  have a1 : (setBlock wr w2.heap.size o1).heap[w2.heap.size]? = some o1 := sb_same k0 _
  have a2 : (setBlock (setBlock wr w2.heap.size o1) w2.heap.size o2).heap[w2.heap.size]? = some o2 := sb_same a1 _
  have oth : ∀ i, i ≠ w2.heap.size → (setBlock (setBlock wr w2.heap.size o1) w2.heap.size o2).heap[i]? = wr.heap[i]? := fun i hi => (sb_other _ hi).trans (sb_other _ hi)
  have d2 : FlagM (setBlock (setBlock wr w2.heap.size o1) w2.heap.size o2) (w2.heap.size + 1) c fin := h.don.of_block (oth _ (by omega))
  obtain ⟨o', v1, s1, o1', o2', k0', k1', k2', k3'⟩ := d2.entry (l' := x :: fin) x true hx hc (fun t => by
    by_cases e : t = x
    · subst e; simp
    · simp [e])
  have a3 := sb_same k0' o1'
  have a4 := sb_same a3 o2'
  have oth3 : ∀ i, i ≠ w2.heap.size → i ≠ w2.heap.size + 1 → (setBlock (setBlock (setBlock wr w2.heap.size o1) w2.heap.size o2) (w2.heap.size + 1) o1').heap[i]? = wr.heap[i]? := fun i h1 h2 => (sb_other _ h2).trans (oth i h1)
  have oth4 : ∀ i, i ≠ w2.heap.size → i ≠ w2.heap.size + 1 → (setBlock (setBlock (setBlock (setBlock wr w2.heap.size o1) w2.heap.size o2) (w2.heap.size + 1) o1') (w2.heap.size + 1) o2').heap[i]? = wr.heap[i]? := fun i h1 h2 => (sb_other _ h2).trans (oth3 i h1 h2)
  refine ⟨_, _, _, _, v0, v1, s0, s1, k1 _ k0, k2 _ a1, k1' _ k0', k2' _ a3, ?_, ?_, ?_, ?_, ?_, ?_, k3' _ a4, ?_⟩
  · rw [World.cell?_of_block (w := wr) (sb_other _ (by show g ≠ _; omega))]; exact c0
  · rw [World.cell?_of_block (w := wr) (oth _ (by show g ≠ _; omega))]; exact c0
  · rw [World.cell?_of_block (w := wr) (oth3 _ (by show g ≠ _; omega) (by show g ≠ _; omega))]; exact c0
  · rw [World.cell?_of_block (w := wr) (oth4 _ (by show g ≠ _; omega) (by show g ≠ _; omega))]; exact c0
  · exact hpop.kept (fun i h1 h2 => oth4 i (by omega) (by omega))
  · exact (k3 _ ((sb_other _ (by omega)).trans ((sb_other _ (by omega)).trans a2)))
  · refine h.bel.trans ⟨rfl, rfl, rfl, by simp [set_size], fun i hi => oth4 i (by omega) (by omega)⟩

end Go.Proofs.Qxb6614206aFmt
