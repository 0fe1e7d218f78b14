import Derived.Test.Qxb6614206aFmtDef
import Derived.Deep.RegionHeld3
import Derived.Deep.AppendLies
set_option linter.unusedVariables false
set_option linter.unusedSimpArgs false
namespace Go.Proofs.Qxb6614206aFmt
open Go.RowKit

/-- An edge's cells. -/
def edc (e : Ed) : List Value := [.string e.id, .string e.src, .string e.dst, .bool e.err]

theorem edc_len (l : List Ed) : (l.flatMap edc).length = l.length * 4 := by
  induction l with
  | nil => rfl
  | cons a l ih => simp [edc, ih] at *; omega

theorem edc_at : ∀ (l : List Ed) (i f : Nat) (e : Ed) (u : Value), l[i]? = some e → f < 4 → (edc e)[f]? = some u → (l.flatMap edc)[i * 4 + f]? = some u
  | [], i, f, e, u, h, _, _ => by simp at h
  | a :: l, 0, f, e, u, h, hf, hu => by
    simp at h
    subst h
    rw [List.flatMap_cons, List.getElem?_append_left (by simp [edc]; omega)]
    simpa using hu
  | a :: l, i + 1, f, e, u, h, hf, hu => by
    rw [List.getElem?_cons_succ] at h
    have ih := edc_at l i f e u h hf hu
    rw [List.flatMap_cons, List.getElem?_append_right (by simp [edc]; omega)]
    rw [show (i + 1) * 4 + f - (edc a).length = i * 4 + f by simp [edc]; omega]
    exact ih

/-- The edges by their sources, in memory: the map's block is m; the rows lie from base on. -/
structure OM (w : World) (base m : Nat) (E : List Ed) (f : ByteArray → Option Value) : Prop where
  map : VM w m E.length f
  non : ∀ s, f s = .none → outE s E = []
  row : ∀ s v, f s = some v → w.ownsRow base 40 4 v (outE s E).length ((outE s E).flatMap edc) ∧ 0 < (outE s E).length
  apart : ∀ s t v u, s ≠ t → f s = some v → f t = some u → v.ownBlock ≠ u.ownBlock
  lt : m < base

/-- The row at s, or nil. -/
def rowAt (f : ByteArray → Option Value) (s : ByteArray) : Value := (f s).getD (.slice .none 0 0)

theorem OM.at {w : World} {base m : Nat} {E : List Ed} {f : ByteArray → Option Value} (h : OM w base m E f) (s : ByteArray) : w.ownsRow base 40 4 (rowAt f s) (outE s E).length ((outE s E).flatMap edc) := by
  unfold rowAt
  cases hf : f s with
  | none =>
    rw [h.non s hf]
    exact World.ownsRow_nil _ _ _ _
  | some v => exact (h.row s v hf).1

theorem out_snoc (s : ByteArray) (E : List Ed) (e : Ed) : outE s (E ++ [e]) = outE s E ++ (if e.src = s then [e] else []) := by
  unfold outE
  rw [List.filter_append]
  by_cases h : e.src = s <;> simp [h]

theorem OM.step {w wa w1 w2 : World} {base m : Nat} {E : List Ed} {f : ByteArray → Option Value} (h : OM w base m E f) (e : Ed) (hA : w.grownBy wa .none) {g cap : Nat}
    (hown : w1.ownsRow base 40 4 (.slice (some ⟨g, 0, .none⟩) ((outE e.src E).length + 1) cap) ((outE e.src E).length + 1) ((outE e.src E).flatMap edc ++ edc e)) (hg1 : wa.grownBy w1 (rowAt f e.src).ownBlock)
    (hat : (rowAt f e.src).ownBlock = some g ∨ g = wa.heap.size) (hV : VM w2 m (E.length + 1) (upd f e.src (.slice (some ⟨g, 0, .none⟩) ((outE e.src E).length + 1) cap))) (hg2 : w1.grownBy w2 (some m)) :
    OM w2 base m (E ++ [e]) (upd f e.src (.slice (some ⟨g, 0, .none⟩) ((outE e.src E).length + 1) cap)) := by
  have hmg : m ≠ g := by
    have := (hown.lt g rfl).1
    have := h.lt
    omega
  refine { map := by rw [List.length_append]; exact hV, non := ?_, row := ?_, apart := ?_, lt := h.lt }
  · intro s hs
    unfold upd at hs
    split at hs
    · cases hs
    · rename_i hne
      rw [out_snoc, if_neg (fun e => hne e.symm), List.append_nil]
      exact h.non s hs
  · intro s v hs
    unfold upd at hs
    split at hs
    · rename_i he
      subst he
      injection hs with hs
      subst hs
      rw [out_snoc, if_pos rfl, List.length_append, List.flatMap_append]
      refine ⟨?_, by simp⟩
      have := hown.kept hg2 (.inr (by simp [Value.ownBlock]; exact fun e => hmg e.symm))
      simpa using this
    · rename_i hne
      rw [out_snoc, if_neg (fun e => hne e.symm), List.append_nil]
      obtain ⟨h1, h2⟩ := h.row s v hs
      refine ⟨?_, h2⟩
      have k1 := h1.kept hA (by
        cases hb : v.ownBlock with
        | none => exact .inl rfl
        | some b => exact .inr (by simp))
      have k2 := k1.kept hg1 (by
        cases hf : f e.src with
        | none =>
          have : (rowAt f e.src).ownBlock = .none := by simp [rowAt, hf, Value.ownBlock]
          rw [this]
          cases hb : v.ownBlock with
          | none => exact .inl rfl
          | some b => exact .inr (by simp)
        | some u =>
          have : rowAt f e.src = u := by simp [rowAt, hf]
          rw [this]
          exact .inr (h.apart s e.src v u hne hs hf))
      exact k2.kept hg2 (by
        cases hb : v.ownBlock with
        | none => exact .inl rfl
        | some b =>
          refine .inr ?_
          have := (h1.lt b hb).1
          have := h.lt
          simp
          omega)
  · have key : ∀ t u, t ≠ e.src → f t = some u → (Value.slice (some ⟨g, 0, .none⟩) ((outE e.src E).length + 1) cap).ownBlock ≠ u.ownBlock := by
      intro t u ht hu he
      have hgu : u.ownBlock = some g := he.symm
      rcases hat with h1 | h1
      · cases hf : f e.src with
        | none => simp [rowAt, hf, Value.ownBlock] at h1
        | some v =>
          have : rowAt f e.src = v := by simp [rowAt, hf]
          rw [this] at h1
          exact h.apart e.src t v u (fun e => ht e.symm) hf hu (h1.trans hgu.symm)
      · have := ((h.row t u hu).1.lt g hgu).2
        have := hA.size
        omega
    intro s t v u hst hs ht
    unfold upd at hs ht
    split at hs
    · rename_i h1
      split at ht
      · rename_i h2
        exact absurd (h1.trans h2.symm) hst
      · rename_i h2
        injection hs with hs
        subst hs
        exact key t u h2 ht
    · rename_i h1
      split at ht
      · injection ht with ht
        subst ht
        exact (key s v h1 hs).symm
      · exact h.apart s t v u hst hs ht

theorem OM.made (w : World) : OM (w.alloc (.map #[] 0)) (w.heap.size + 1) w.heap.size [] (fun _ => .none) where
  map := VM.made w
  non := fun _ _ => rfl
  row := fun _ _ h => by cases h
  apart := fun _ _ _ _ _ h => by cases h
  lt := by omega

theorem OM.below {w w' : World} {base m : Nat} {E : List Ed} {f : ByteArray → Option Value} (h : OM w base m E f) (hB : Below w.heap.size w w') : OM w' base m E f where
  map := h.map.below hB
  non := h.non
  row := fun s v hs => by
    obtain ⟨h1, h2⟩ := h.row s v hs
    exact ⟨h1.kept (row := .none) ⟨hB.os, hB.tape, hB.output, hB.size, fun i hi _ => hB.block i hi⟩ (by
      cases hb : v.ownBlock with
      | none => exact .inl rfl
      | some b => exact .inr (by simp)), h2⟩
  apart := h.apart
  lt := h.lt

theorem OM.up {w wa w1 : World} {base m : Nat} {E : List Ed} {f : ByteArray → Option Value} (h : OM w base m E f) (s : ByteArray) (hA : w.grownBy wa .none) (hg1 : wa.grownBy w1 (rowAt f s).ownBlock) (hn : E.length < maxLen) (hs : s.size ≤ maxLen) (v : Value) :
    ∃ w2, (Instr.mapUpdate 81 (.map (some m)) (.string s) v).run Tryf.prog w1 = .ok () w2 ∧ VM w2 m (E.length + 1) (upd f s v) ∧ w1.grownBy w2 (some m) := by
  have hlt := h.map.lt
  have h1 : VM w1 m E.length f := h.map.of_block ((hg1.block m (Nat.lt_of_lt_of_le hlt hA.size) (fun e => by
    have := ((h.at s).lt m e.symm).1
    have := h.lt
    omega)).trans (hA.block m hlt (by simp)))
  exact h1.update Tryf.underlying81 hn s hs v

theorem grown2 (w : World) (A B : Obj) : w.grownBy ((w.alloc A).alloc B).drew .none :=
  ⟨rfl, rfl, rfl, by simp; omega, fun i hi _ => (Below.heap_alloc (w.alloc A) B i (by simp; omega)).trans (Below.heap_alloc w A i hi)⟩

theorem zero28 (w : World) : (zeroValue 28).run Tryf.prog w = .ok (.slice .none 0 0) w := by kernel_rfl

set_option maxRecDepth 100000 in
set_option maxHeartbeats 4000000 in
theorem outgoingByNode (na ea : Option Addr) (nl nc ec : Nat) (E : List Ed) (w : World) (hm : E.length ≤ 65536) (hE : EL w ea E) (hS : Sz E) :
    Calls Tryf.prog 27 #[.agg #[.slice na nl nc, .slice ea E.length ec]] w fun e w' => ∃ f, e = .returned (.map (some (w.heap.size + 1))) ∧ OM w' (w.heap.size + 2) (w.heap.size + 1) E f ∧ Below w.heap.size w w' := by
  have HE := hide hE
  have HS := hide hS
  have hmk := fun W => mkMap Tryf.underlying81 nl W
  clear hE hS
  generalize hn : E.length = n at hm ⊢
  have HN := hide hn
  clear hn
  go_enter Tryf.func27, Tryf.ntmps27
  go_wp2_with fail
  go_loopg [13] (n + 1) (fun g v13 wr => ∃ (k : Nat) (f : ByteArray → Option Value), g = n + 1 - k ∧ k ≤ n ∧ v13 = .int .i64 k ∧ OM wr (w.heap.size + 2) (w.heap.size + 1) (E.take k) f ∧ Below w.heap.size w wr)
  case atStart =>
    refine ⟨0, fun _ => .none, rfl, Nat.zero_le _, rfl, ?_, ((Below.refl _ w).alloc (Nat.le_refl _) _).alloc (by simp) _⟩
    have := OM.made (w.alloc (.cells #[.slice na nl nc, .slice ea n ec] 30))
    simpa using this
  case round =>
    obtain ⟨k, f, rfl, hk, rfl, hO, hB⟩ := hrel
    clear hmk
    by_cases h1 : k < n
    · obtain ⟨e, he⟩ := at_some E k (by rw [HN.out]; exact h1)
      obtain ⟨b, off, rfl, hb, c0, c1, c2, c3⟩ := (unhide HE) k e he
      have d0 := (hB.cell (p := ⟨b, off + k * 4, .none⟩) hb).trans c0
      have d1 := (hB.cell (p := ⟨b, off + k * 4 + 1, .none⟩) hb).trans c1
      have d2 := (hB.cell (p := ⟨b, off + k * 4 + 2, .none⟩) hb).trans c2
      have d3 := (hB.cell (p := ⟨b, off + k * 4 + 3, .none⟩) hb).trans c3
      have hz : e.src.size ≤ maxLen := ((unhide HS) e (List.mem_of_getElem? he)).2.1
      have HX := hide (And.intro hO (And.intro hB (And.intro he hz)))
      have hbs : w.heap.size + 1 < wr.heap.size := hO.map.lt
      have hlk : ∀ W : World, W.heap[w.heap.size + 1]? = wr.heap[w.heap.size + 1]? → (Instr.lookup 81 (.map (some (w.heap.size + 1))) (.string e.src) false).run Tryf.prog W = .ok (rowAt f e.src) W := fun W hW => (hO.map.of_block hW).look Tryf.underlying81 (zero28 W) e.src hz
      have hL0 := hlk (wr.alloc (.cells #[.string e.id, .string e.src, .string e.dst, .bool e.err] 40)) (Below.heap_alloc _ _ _ hbs)
      have hL1 := fun o => hlk ((wr.alloc (.cells #[.string e.id, .string e.src, .string e.dst, .bool e.err] 40)).alloc o) ((Below.heap_alloc _ _ _ (by simp; omega)).trans (Below.heap_alloc _ _ _ hbs))
      have hlen : (outE e.src (E.take k)).length ≤ k := Nat.le_trans (out_le _ _) (by simp; omega)
      have hL2 := hlk (wr.alloc (.cells #[.string e.id, .string e.src, .string e.dst, .bool e.err] 40)).drew (Below.heap_alloc _ _ _ hbs)
      have hL3 := fun o => hlk ((wr.alloc (.cells #[.string e.id, .string e.src, .string e.dst, .bool e.err] 40)).alloc o).drew ((Below.heap_alloc _ _ _ (by simp; omega)).trans (Below.heap_alloc _ _ _ hbs))
      have hfar : some wr.heap.size ≠ (rowAt f e.src).ownBlock := fun h => by
        have := ((hO.at e.src).lt _ h.symm).2
        omega
      have HK := hide hlk
      obtain ⟨i0, hi0, hz0, hz1, hz2⟩ := info_parts Tryf.info40
      clear hO hB he hz c0 c1 c2 c3 hlk
      go_wp2_with fail
      go_region_held3 (fun w' => w'.cell? ⟨wr.heap.size, 0, .none⟩ = some (.string e.id) ∧ w'.cell? ⟨wr.heap.size, 1, .none⟩ = some (.string e.src) ∧ w'.cell? ⟨wr.heap.size, 2, .none⟩ = some (.string e.dst) ∧ w'.cell? ⟨wr.heap.size, 3, .none⟩ = some (.bool e.err))
        (first
          | (go_split_ands
             refine ⟨by go_keep, by go_keep, by go_keep, by go_keep⟩)
          | (go_split_ands
             refine ⟨?_, ?_, ?_, ?_⟩
             all_goals (rw [hgrow.cell_far _ (by simp; omega) hfar]; assumption))
          | (go_split_ands
             refine ⟨?_, ?_, ?_, ?_⟩
             all_goals (rw [hg2.cell_far _ (Nat.lt_of_lt_of_le (by simp; omega) hgrow.size) (by simp; omega)]; assumption)))
        ((refine step_append_lies _ (by rfl) _ _ _ (by rfl) (w.heap.size + 2) 40 i0 _ 4 56 Tryf.underlying28 hi0 hz0 hz1 hz2 rfl (by omega) (rowAt f e.src) (outE e.src (E.take k)).length ((outE e.src (E.take k)).flatMap edc) (by rfl) ((((unhide HX).1.at e.src).alloc _).alloc _).drew
            ⟨wr.heap.size + 1, 0, .none⟩ 1 1 (edc e) (by rfl) (by rfl) (World.news_of_block (cs := #[.string e.id, .string e.src, .string e.dst, .bool e.err]) (t := 40) (fr := (0, 0)) (heap_alloc2_new wr _ _)) (by simp [edc, Value.oneCell'])
            (by omega) (by unfold maxLen; omega) (by omega) (by simp; omega) (wr.heap.size + 2) (by simp) ?_; intro g cap w1 hown1 hgrow hat hlt; obtain ⟨w2, hup, hV, hg2⟩ := (unhide HX).1.up e.src (grown2 wr _ _) hgrow (by simp [maxLen]; omega) (unhide HX).2.2.2 (.slice (some ⟨g, 0, .none⟩) ((outE e.src (E.take k)).length + 1) cap)))
      all_goals
        go_wp2_with fail
        obtain ⟨x1, x2, x3, x4⟩ := unhide HX
        go_roundg (n + 1 - (k + 1))
        case measure => omega
        case rel =>
          refine ⟨k + 1, _, rfl, by omega, by go_num, by rw [List.take_add_one, x3]; exact x1.step e (grown2 wr _ _) hown1 hgrow (by simpa using hat) hV hg2, ?_⟩
          have b1 : Below w.heap.size w ((wr.alloc (.cells #[.string e.id, .string e.src, .string e.dst, .bool e.err] 40)).alloc (.cells #[.string e.id, .string e.src, .string e.dst, .bool e.err] 40)).drew := ((x2.alloc x2.size _).alloc (by have := x2.size; simp; omega) _).drew
          have b2 := b1.grown hgrow (by have := x2.size; simp; omega) (fun j hj => by have := ((x1.at e.src).lt j hj).1; omega)
          exact b2.grown hg2 (Nat.le_trans (by have := x2.size; simp; omega) hgrow.size) (fun j hj => by injection hj with hj; omega)
    · obtain rfl : k = n := by omega
      have ht : E.take k = E := List.take_of_length_le (by rw [HN.out]; exact Nat.le_refl _)
      rw [ht] at hO
      have HX := hide (And.intro hO hB)
      clear hO hB ht
      go_wp2_with fail
      go_ret
      exact ⟨f, rfl, unhide HX⟩

end Go.Proofs.Qxb6614206aFmt
