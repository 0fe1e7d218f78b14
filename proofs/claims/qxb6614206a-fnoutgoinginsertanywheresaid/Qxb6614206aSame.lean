import Derived.Test.Qxb6614206aOut
set_option linter.unusedVariables false
set_option linter.unusedSimpArgs false
namespace Go.Proofs.Qxb6614206a
open Go.RowKit

set_option maxRecDepth 100000 in
set_option maxHeartbeats 2000000 in
theorem same (a b : Option Addr) (c d : Nat) (l : List Ed) (w : World) (hl : l.length ≤ 1048576) (hA : EL w a l) (hB : EL w b l) :
    Calls Try.prog 9 #[.slice a l.length c, .slice b l.length d] w fun e w' => e = .returned (.bool true) ∧ ∃ m, w' = w.drewN m := by
  have HA := hide hA
  have HB := hide hB
  clear hA hB
  generalize hn : l.length = n at hl ⊢
  have HN := hide hn
  clear hn
  have hne : ((n : Int) != (n : Int)) = false := by simp
  go_enter Try.func9, Try.ntmps9
  go_wp2_with fail
  go_loopg [5] (n + 1) (fun g v5 wr => ∃ (k m : Nat), g = n + 1 - k ∧ k ≤ n ∧ v5 = .int .i64 k ∧ wr = w.drewN m)
  case atStart => exact ⟨0, 0, rfl, Nat.zero_le _, rfl, rfl⟩
  case round =>
    obtain ⟨k, m, rfl, hk, rfl, hw⟩ := hrel
    by_cases h1 : k < n
    · obtain ⟨e, he⟩ := at_some l k (by rw [HN.out]; exact h1)
      obtain ⟨b1, off1, rfl, _, c0, c1, c2, c3⟩ := (unhide HA) k e he
      obtain ⟨b2, off2, rfl, _, d0, d1, d2, d3⟩ := (unhide HB) k e he
      have hc : ∀ p, wr.cell? p = w.cell? p := fun p => by rw [hw]; rfl
      rw [← hc] at c0 c1 c2 c3 d0 d1 d2 d3
      have HW := hide hw
      have hki : (k : Int) < (n : Int) := by omega
      clear he hw hc
      go_wp2_with fail
      go_quiet (fail)
      go_wp2_with fail
      go_roundg (n + 1 - (k + 1))
      case measure => omega
      case rel => exact ⟨k + 1, _, rfl, by omega, by go_num, by rw [unhide HW, World.drewN_drewN]⟩
    · have HW := hide hw
      clear hw
      go_wp2_with fail
      go_ret
      exact ⟨rfl, m, unhide HW⟩

/-- A slice of the call's own, its value written out. -/
theorem Own.form {w : World} {base : Nat} {v : Value} {l : List Ed} (h : Own w base v l) :
    ∃ ad cap, v = .slice ad l.length cap ∧ EL w ad l ∧ (ad = .none ∨ ∃ b off, ad = some ⟨b, off, .none⟩) ∧ (ad = .none → l = []) ∧ l.length ≤ cap ∧ cap ≤ maxLen ∧ (ad = .none → cap = 0) := by
  rcases h.open with ⟨rfl, rfl⟩ | ⟨g, cap, rfl, h1, h2, h3, h4, h5⟩
  · exact ⟨.none, 0, rfl, EL.nil _ _, .inl rfl, fun _ => rfl, Nat.le_refl _, Nat.zero_le _, fun _ => rfl⟩
  · exact ⟨_, cap, rfl, h5, .inr ⟨g, 0, rfl⟩, (fun h => by cases h), h3, h4, (fun h => by cases h)⟩

/-- 'Outgoing', the value written out. -/
theorem outgoing' (a : Option Addr) (cap : Nat) (id : ByteArray) (l : List Ed) (w : World) (hl : l.length ≤ 524288) (hE : EL w a l) :
    Calls Try.prog 8 #[.agg #[.slice .none 0 0, .slice a l.length cap], .string id] w fun e w' => ∃ ad c, e = .returned (.slice ad (outE id l).length c) ∧ EL w' ad (outE id l) ∧ (ad = .none ∨ ∃ b off, ad = some ⟨b, off, .none⟩) ∧ (ad = .none → outE id l = []) ∧ (outE id l).length ≤ c ∧ c ≤ maxLen ∧ (ad = .none → c = 0) ∧ Below w.heap.size w w' := by
  refine (outgoing a cap .nilIface id l w hl hE).mono ?_
  rintro e w' ⟨v, rfl, hO, hB⟩
  obtain ⟨ad, c, rfl, h1, h2, h3, h4, h5, h6⟩ := hO.form
  exact ⟨ad, c, rfl, h1, h2, h3, h4, h5, h6, hB⟩

/-- 'make([]Edge, 0, n)' at the operation. -/
theorem wpList_mk (w : World) {ops : Array Oper} {rest : List Oper} {o : Oper} {a : Act} {Q : Exit → Act → World → Prop} (hg : o.guard = .none) (l c : Operand) (hop : o.op = Op.makeSlice 25 l c)
    (C : Int) (n : Nat) (hl : a.eval l = .int .i64 0) (hc : a.eval c = .int .i64 C) (hC : C = (n : Int)) (hn : n ≤ 1048576)
    (hK : ∀ w', Own w' w.heap.size (.slice (some ⟨w.heap.size, 0, .none⟩) 0 n) [] → Below w.heap.size w w' → wpList Try.prog ops Q rest (a.put o.dst (.slice (some ⟨w.heap.size, 0, .none⟩) 0 n)) w') : wpList Try.prog ops Q (o :: rest) a w := by
  obtain ⟨i, hi, hz⟩ := Option.map_eq_some_iff.1 Try.info28
  simp only [Prod.mk.injEq] at hz
  obtain ⟨z1, z2, z3⟩ := hz
  refine wpList_make_own (P := Try.prog) w hg l c 25 hop w.heap.size 28 i _ 4 Try.underlying25 hi z1 z2 .i64 .i64 C n hl hc hC (by rw [z3]; omega) (by unfold maxLen; omega) (Nat.le_refl _) ?_
  intro w' h1 h2
  exact hK w' h1 ((Below.refl _ w).grown h2 (Nat.le_refl _) (fun k hk => by cases hk))

/-- Where 'x[k:]' begins. -/
def cutA (a : Option Addr) (k cap : Nat) : Option Addr := if cap = k then a else a.map (fun x => x.add (k * 4))

theorem size28 : Try.prog.cellsOf 28 = 4 := by kernel_rfl

theorem add_zero (x : Addr) : x.add 0 = x := by simp [Addr.add]

/-- 'x[k:]' -/
theorem slice_from (a : Option Addr) (n cap k : Nat) (hk : k ≤ n) (W : World) : (Instr.slice 25 (.slice a n cap) (some (.int .i64 (k : Int))) .none .none).run Try.prog W = .ok (.slice (cutA a k cap) (n - k) (cap - k)) W := by
  obtain ⟨i, hi, hz⟩ := Option.map_eq_some_iff.1 Try.info28
  simp only [Prod.mk.injEq] at hz
  obtain ⟨z1, z2, z3⟩ := hz
  have hb : (Instr.sliceBound (.int .i64 (k : Int)) n .sliceB).run Try.prog W = .ok k W := by
    have := run_sliceBound (P := Try.prog) W .i64 (k : Int) n .sliceB (by omega) (by omega)
    simpa using this
  simp [Instr.slice, run_underlying Try.underlying25, Instr.sliceBounds, hb, sizeOf, typeInfo, hi, z2, cutA]

/-- 'x[:k]' -/
theorem slice_to (a : Option Addr) (n cap k : Nat) (hk : k ≤ cap) (W : World) : (Instr.slice 25 (.slice a n cap) .none (some (.int .i64 (k : Int))) .none).run Try.prog W = .ok (.slice a k cap) W := by
  obtain ⟨i, hi, hz⟩ := Option.map_eq_some_iff.1 Try.info28
  simp only [Prod.mk.injEq] at hz
  obtain ⟨z1, z2, z3⟩ := hz
  have hb : (Instr.sliceBound (.int .i64 (k : Int)) cap .sliceAcap).run Try.prog W = .ok k W := by
    have := run_sliceBound (P := Try.prog) W .i64 (k : Int) cap .sliceAcap (by omega) (by omega)
    simpa using this
  simp [Instr.slice, run_underlying Try.underlying25, Instr.sliceBounds, hb, sizeOf, typeInfo, hi, z2]
  intro _
  cases a
  · rfl
  · simp [add_zero]

theorem EL.cut {w : World} {a : Option Addr} {l : List Ed} {cap : Nat} (h : EL w a l) (hl : l.length ≤ cap) (k : Nat) : EL w (cutA a k cap) (l.drop k) := by
  unfold cutA
  split
  · rw [List.drop_of_length_le (by omega)]
    exact EL.nil _ _
  · intro i e he
    have he' := he
    rw [List.getElem?_drop] at he'
    obtain ⟨b, off, rfl, _⟩ := h _ e he'
    have := h.drop k i e he
    simpa [Go.WideShapes.add_plain] using this

theorem cut_plain {a : Option Addr} {k cap : Nat} (h : a = .none ∨ ∃ b off, a = some ⟨b, off, .none⟩) : cutA a k cap = .none ∨ ∃ b off, cutA a k cap = some ⟨b, off, .none⟩ := by
  unfold cutA
  rcases h with rfl | ⟨b, off, rfl⟩
  · left; split <;> rfl
  · right
    split
    · exact ⟨b, off, rfl⟩
    · exact ⟨b, off + k * 4, by simp [Go.WideShapes.add_plain]⟩

theorem cut_nil {a : Option Addr} {k cap : Nat} {l : List Ed} (h : a = .none → l = []) (hc : cutA a k cap = .none) : l.drop k = [] := by
  unfold cutA at hc
  split at hc
  · rw [h hc]; simp
  · cases a
    · rw [h rfl]; simp
    · simp at hc

/-- 'zzSameEdges' of two slices that hold the same. -/
theorem same_v (a : Option Addr) (c base : Nat) (v : Value) (l : List Ed) (w : World) (hl : l.length ≤ 1048576) (hA : EL w a l) (hO : Own w base v l) :
    Calls Try.prog 9 #[.slice a l.length c, v] w fun e w' => e = .returned (.bool true) ∧ Below w.heap.size w w' := by
  obtain ⟨ad, d, rfl, hB, _⟩ := hO.form
  refine (same a ad c d l w hl hA hB).mono ?_
  rintro e w' ⟨rfl, m, rfl⟩
  exact ⟨rfl, rfl, rfl, rfl, Nat.le_refl _, fun _ _ => rfl⟩

end Go.Proofs.Qxb6614206a
