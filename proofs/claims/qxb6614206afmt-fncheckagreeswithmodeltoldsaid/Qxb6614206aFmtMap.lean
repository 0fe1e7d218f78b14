import Derived.Test.Qxb6614206aFmtErr
import Derived.Maps.OwnOps
import Derived.Maps.OwnSet
import Derived.Maps.Views
import Derived.WideKeyEntry
set_option linter.unusedVariables false
set_option linter.unusedSimpArgs false
namespace Go.Proofs.Qxb6614206aFmt
open Go.RowKit Go.Maps Go.WideMaps

/-- An element reads as itself. -/
def hR (v : Value) : Option (DataW Value × List MemPlace) := some (.held v, [])

theorem hR_inv {v : Value} {x : Value} {ps : List MemPlace} (h : hR v = some (.held x, ps)) : v = x := by
  unfold hR at h
  simp only [Option.some.injEq, Prod.mk.injEq, DataW.held.injEq] at h
  exact h.1

def orD (o : Option Value) (z : DataW Value) : DataW Value := match o with | some v => .held v | .none => z

/-- Block m is a map from strings, of at most n entries, that reads as f. -/
def VM (w : World) (m n : Nat) (f : ByteArray → Option Value) : Prop :=
  ∃ D : DataW Value, w.ownsMap Tryf.prog 9 hR m n D ∧ ∀ s z, D.atKey (.string s.data.toList) z = orD (f s) z

theorem law : Keyed Tryf.prog 9 := string_keyed Tryf.underlying9

theorem str_inj {a b : ByteArray} (h : a.data.toList = b.data.toList) : a = b := by
  cases a; cases b; simp at h; simp [h]

theorem VM.of_block {w w' : World} {m n : Nat} {f : ByteArray → Option Value} (h : VM w m n f) (e : w'.heap[m]? = w.heap[m]?) : VM w' m n f := by
  obtain ⟨D, ⟨es, clock, hb, hr⟩, h3⟩ := h
  exact ⟨D, ⟨es, clock, e.trans hb, hr⟩, h3⟩

theorem VM.lt {w : World} {m n : Nat} {f : ByteArray → Option Value} (h : VM w m n f) : m < w.heap.size := by
  obtain ⟨D, h1, _⟩ := h
  exact h1.lt

theorem VM.mono {w : World} {m n n' : Nat} {f : ByteArray → Option Value} (h : VM w m n f) (hn : n ≤ n') : VM w m n' f := by
  obtain ⟨D, h1, h2⟩ := h
  exact ⟨D, h1.mono hn, h2⟩

theorem VM.congr {w : World} {m n : Nat} {f g : ByteArray → Option Value} (h : VM w m n f) (e : ∀ s, f s = g s) : VM w m n g := by
  obtain ⟨D, h1, h2⟩ := h
  exact ⟨D, h1, fun s z => by rw [h2, e]⟩

theorem VM.made (w : World) : VM (w.alloc (.map #[] 0)) w.heap.size 0 (fun _ => .none) :=
  ⟨.map [], World.ownsMap_made w Tryf.prog 9 hR, fun s z => rfl⟩

theorem VM.below {w w' : World} {m n : Nat} {f : ByteArray → Option Value} (h : VM w m n f) (hB : Below w.heap.size w w') : VM w' m n f := h.of_block (hB.block _ h.lt)

/-- f, turned at s. -/
def upd (f : ByteArray → Option Value) (s : ByteArray) (v : Value) : ByteArray → Option Value := fun x => if x = s then some v else f x

theorem VM.put {w : World} {m n : Nat} {f : ByteArray → Option Value} {D : DataW Value} (hown : w.ownsMap Tryf.prog 9 hR m n D) (hat : ∀ s z, D.atKey (.string s.data.toList) z = orD (f s) z) (k : ByteArray) (v : Value) :
    ∀ s z, (D.put (.string k.data.toList) (.held v)).atKey (.string s.data.toList) z = orD (upd f k v s) z := by
  intro s z
  unfold upd
  by_cases e : s = k
  · subst e
    rw [atKey_put_same hown.isMap (show WideAt.IsKeyLit (Lit.string s.data.toList) from trivial), if_pos rfl]
    rfl
  · have hne : Lit.string s.data.toList ≠ Lit.string k.data.toList := fun h' => e (str_inj (Lit.string.inj h'))
    rw [atKey_put_other hne, hat s, if_neg e]

theorem VM.update {w : World} {m n : Nat} {f : ByteArray → Option Value} (h : VM w m n f) {t e : TypeId} (ht : Tryf.prog.underlying t = some (.map 9 e)) (hn : n < maxLen) (k : ByteArray) (hs : k.size ≤ maxLen) (v : Value) :
    ∃ w', (Instr.mapUpdate t (.map (some m)) (.string k) v).run Tryf.prog w = .ok () w' ∧ VM w' m (n + 1) (upd f k v) ∧ w.grownBy w' (some m) := by
  obtain ⟨D, hown, hat⟩ := h
  obtain ⟨w', hrun, hown', hg⟩ := hown.update law ht hn (keyOf_string_mk Tryf.underlying9 hs) (show hR v = some (.held v, []) from rfl)
  exact ⟨w', hrun, ⟨_, hown', VM.put hown hat k v⟩, hg⟩

theorem VM.look {w : World} {m n : Nat} {f : ByteArray → Option Value} (h : VM w m n f) {t e : TypeId} (ht : Tryf.prog.underlying t = some (.map 9 e)) {z : Value} (hz : (zeroValue e).run Tryf.prog w = .ok z w) (k : ByteArray) (hs : k.size ≤ maxLen) :
    (Instr.lookup t (.map (some m)) (.string k) false).run Tryf.prog w = .ok ((f k).getD z) w := by
  obtain ⟨D, hown, hat⟩ := h
  obtain ⟨v, ps, hrun, hv⟩ := hown.lookup law ht hz (show hR z = some (.held z, []) from rfl) (keyOf_string_mk Tryf.underlying9 hs)
  rw [hat k] at hv
  cases hf : f k with
  | none => rw [hf] at hv; rw [hR_inv hv] at hrun; exact hrun
  | some x => rw [hf] at hv; rw [hR_inv hv] at hrun; exact hrun

theorem VM.lookOk {w : World} {m n : Nat} {f : ByteArray → Option Value} (h : VM w m n f) {t e : TypeId} (ht : Tryf.prog.underlying t = some (.map 9 e)) {z : Value} (hz : (zeroValue e).run Tryf.prog w = .ok z w) (k : ByteArray) (hs : k.size ≤ maxLen) :
    (Instr.lookup t (.map (some m)) (.string k) true).run Tryf.prog w = .ok (.tuple #[(f k).getD z, .bool (f k).isSome]) w := by
  obtain ⟨D, hown, hat⟩ := h
  obtain ⟨v, ps, hrun, hv⟩ := hown.look_ok law ht hz (show hR z = some (.held z, []) from rfl) (keyOf_string_mk Tryf.underlying9 hs)
  have hat' := hat k
  rw [hat k] at hv
  cases hf : f k with
  | none =>
    rw [hf] at hv hat'
    rw [hR_inv hv, has_false_of_atKey hat'] at hrun
    exact hrun
  | some x =>
    rw [hf] at hv hat'
    rw [hR_inv hv, has_true_of_atKey hat'] at hrun
    exact hrun

/-- 'makeMap'. -/
theorem mkMap {t e : TypeId} (ht : Tryf.prog.underlying t = some (.map 9 e)) (n : Nat) (w : World) : (Instr.makeMap t (some (.int .i64 (n : Int)))).run Tryf.prog w = .ok (.map (some w.heap.size)) (w.alloc (.map #[] 0)) := by
  simp [Instr.makeMap, run_underlying ht]
  rfl

open Go.WideElems Go.ChangeMaps in
theorem entry_all {m : Nat} {es : Array MapEntry} {clock : Nat} {w : World} (hb : w.heap[m]? = some (.map es clock)) (F : Fit Tryf.prog 9 hR es clock) {t e : TypeId} (ht : Tryf.prog.underlying t = some (.map 9 e)) {z : Value} (hz : ∀ u : World, (zeroValue e).run Tryf.prog u = .ok z u) (k : ByteArray) (hs : k.size ≤ maxLen) :
    ∃ (v0 : Value) (st : Nat) (es1 : Array MapEntry) (clock1 : Nat),
      (∀ u : World, u.heap[m]? = some (.map es clock) → (Instr.mapEntry t (.map (some m)) (.string k)).run Tryf.prog u = .ok (.tuple #[v0, goInt st]) (setBlock u m (.map es1 clock1))) ∧
      (∀ (w2 : World) (val : Value), w2.heap[m]? = some (.map es1 clock1) → ∃ es' clock', (Instr.entryStore t (.map (some m)) (goInt st) val).run Tryf.prog w2 = .ok () (setBlock w2 m (.map es' clock')) ∧
        (Instr.mapUpdate t (.map (some m)) (.string k) val).run Tryf.prog w = .ok () (setBlock w m (.map es' clock'))) := by
  have K := WideMaps.string_law Tryf.underlying9
  have hkey := keyOf_string_mk Tryf.underlying9 hs
  obtain ⟨v0, st, es1, clock1, hrun, hwho, hst⟩ := entry_then_store (t := t) K ht hz hb F hkey
  refine ⟨v0, st, es1, clock1, fun u hu => ?_, hst⟩
  have tie : ∀ (v1 : Value) (s1 : Nat) (o1 : Obj), (Instr.mapEntry t (.map (some m)) (.string k)).run Tryf.prog w = .ok (.tuple #[v1, goInt s1]) (setBlock w m o1) → v0 = v1 ∧ st = s1 ∧ Obj.map es1 clock1 = o1 := by
    intro v1 s1 o1 h
    rw [hrun] at h
    injection h with a b
    have c := congrArg (fun W : World => W.heap[m]?) b
    simp only [heap_setBlock_same hb] at c
    injection c with c
    simp [goInt] at a
    exact ⟨a.1, by have := a.2; omega, c⟩
  rcases K.find w hkey es.toList F.keys with ⟨h1, h2⟩ | ⟨j, e0, h1, h2, h3⟩
  · obtain ⟨t1, t2, t3⟩ := tie z clock (.map (es.push ⟨.string k, z, clock⟩) (clock + 1)) (by simp [Instr.mapEntry, run_underlying ht, MapKept.run_getObj_map hb, K.check w false hkey, h1, hz, MapKept.run_setObj_map _ hb, Result.andThen, setBlock])
    rw [t1, t2, t3]
    rcases K.find u hkey es.toList F.keys with ⟨h1', h2'⟩ | ⟨j', e0', h1', h2', h3'⟩
    · simp [Instr.mapEntry, run_underlying ht, MapKept.run_getObj_map hu, K.check u false hkey, h1', hz, MapKept.run_setObj_map _ hu, Result.andThen, setBlock]
    · exact absurd h3' (h2 _ (List.mem_of_getElem? h2'))
  · have key : ∀ (j : Nat) (e0 : MapEntry), es.toList[j]? = some e0 → e0.key = .string k → es.modify j (fun e => { e with key := .string k }) = es := by
      intro j e0 h2 h3
      apply Array.ext'
      rw [Array.toList_modify, modify_eq_set _ _ _ _ h2]
      have : ({ e0 with key := .string k } : MapEntry) = e0 := by rw [← h3]
      rw [this]
      exact set_self _ _ _ h2
    have hj : es[j]? = some e0 := by simpa using h2
    obtain ⟨t1, t2, t3⟩ := tie e0.val e0.born (.map es clock) (by simp [Instr.mapEntry, run_underlying ht, MapKept.run_getObj_map hb, K.check w false hkey, h1, hj, h3, K.stays w hkey, key j e0 h2 h3, MapKept.run_setObj_map _ hb, Result.andThen, setBlock])
    rw [t1, t2, t3]
    rcases K.find u hkey es.toList F.keys with ⟨h1', h2'⟩ | ⟨j', e0', h1', h2', h3'⟩
    · exact absurd h3 (h2' _ (List.mem_of_getElem? h2))
    · have hjj : e0' = e0 := by
        have hp := fit_apart law F
        rw [List.pairwise_map, List.pairwise_iff_getElem] at hp
        obtain ⟨l1, g1⟩ := List.getElem?_eq_some_iff.1 h2
        obtain ⟨l2, g2⟩ := List.getElem?_eq_some_iff.1 h2'
        have same : (WideElems.rg Tryf.prog 9 hR e0).1 = (WideElems.rg Tryf.prog 9 hR e0').1 := by
          simp [WideElems.rg, WideElems.rd, h3, h3', hkey, hR]
        rcases Nat.lt_trichotomy j j' with h | h | h
        · exact absurd (by rw [g1, g2]; exact same) (hp j j' l1 l2 h)
        · subst h; rw [← g1, ← g2]
        · exact absurd (by rw [g1, g2]; exact same.symm) (hp j' j l2 l1 h)
      subst hjj
      have hj' : es[j']? = some e0' := by simpa using h2'
      simp [Instr.mapEntry, run_underlying ht, MapKept.run_getObj_map hu, K.check u false hkey, h1', hj', h3', K.stays u hkey, key j' e0' h2' h3', MapKept.run_setObj_map _ hu, Result.andThen, setBlock]

/-- 'm[k], .. = v, ..': the entry first, the value later; other blocks may turn between. -/
theorem VM.entry {w : World} {m n : Nat} {f : ByteArray → Option Value} (h : VM w m n f) {t e : TypeId} (ht : Tryf.prog.underlying t = some (.map 9 e)) {z : Value} (hz : ∀ u : World, (zeroValue e).run Tryf.prog u = .ok z u) (hn : n < maxLen) (k : ByteArray) (hs : k.size ≤ maxLen) (v : Value) :
    ∃ (o : Obj) (v0 : Value) (st : Nat) (o1 o2 : Obj), w.heap[m]? = some o ∧
      (∀ u : World, u.heap[m]? = some o → (Instr.mapEntry t (.map (some m)) (.string k)).run Tryf.prog u = .ok (.tuple #[v0, goInt st]) (ChangeMaps.setBlock u m o1)) ∧
      (∀ u : World, u.heap[m]? = some o1 → (Instr.entryStore t (.map (some m)) (goInt st) v).run Tryf.prog u = .ok () (ChangeMaps.setBlock u m o2)) ∧
      (∀ u : World, u.heap[m]? = some o2 → VM u m (n + 1) (upd f k v)) := by
  have hv := VM.update h ht hn k hs v
  obtain ⟨D, ⟨es, clock, hb, F, hsz, hD⟩, hat⟩ := h
  obtain ⟨w', hrun', hVM, hg⟩ := hv
  obtain ⟨v0, st, es1, clock1, h1, h2⟩ := entry_all hb F ht hz k hs
  have hmlt : m < w.heap.size := (Array.getElem?_eq_some_iff.1 hb).1
  obtain ⟨o2, ho2⟩ : ∃ o2, w'.heap[m]? = some o2 := ⟨_, Array.getElem?_eq_getElem (Nat.lt_of_lt_of_le hmlt hg.size)⟩
  refine ⟨_, v0, st, .map es1 clock1, o2, hb, h1, fun u hu => ?_, fun u hu => hVM.of_block (hu.trans ho2.symm)⟩
  obtain ⟨es', clock', r1, r2⟩ := h2 u v hu
  rw [hrun'] at r2
  injection r2 with _ r2
  rw [r2, ChangeMaps.heap_setBlock_same hb] at ho2
  injection ho2 with ho2
  rw [← ho2]
  exact r1

end Go.Proofs.Qxb6614206aFmt
