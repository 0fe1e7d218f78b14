import Derived.Test.Qxb6614206aFmtBytes
set_option linter.unusedVariables false
set_option linter.unusedSimpArgs false
namespace Go.Proofs.Qxb6614206aFmt
open Go.RowKit

def edf (e : Ed) (f : Nat) : Value := if f = 0 then .string e.id else if f = 1 then .string e.src else if f = 2 then .string e.dst else .bool e.err

/-- The cells of a row of edges. -/
def cellOf (L : List Ed) (q : Nat) : Value := match L[q / 4]? with | some e => edf e (q % 4) | .none => undef

/-- Block B is the row of the edges L. -/
def RowE (w : World) (B : Nat) (L : List Ed) : Prop := w.rowIs B 40 (L.length * 4) (cellOf L)

def zed : Ed := ⟨ByteArray.empty, ByteArray.empty, ByteArray.empty, false⟩

theorem cellOf_at {L : List Ed} {i : Nat} {e : Ed} (h : L[i]? = some e) (f : Nat) (hf : f < 4) : cellOf L (i * 4 + f) = edf e f := by
  unfold cellOf
  rw [show (i * 4 + f) / 4 = i by omega, show (i * 4 + f) % 4 = f by omega, h]

theorem RowE.cell {w : World} {B : Nat} {L : List Ed} (h : RowE w B L) {i : Nat} {e : Ed} (he : L[i]? = some e) (f : Nat) (hf : f < 4) : w.cell? ⟨B, i * 4 + f, .none⟩ = some (edf e f) := by
  have hi : i < L.length := by
    rcases Nat.lt_or_ge i L.length with h | h
    · exact h
    · rw [List.getElem?_eq_none h] at he; cases he
  rw [World.rowIs.cell h (by omega), cellOf_at he f hf]

theorem RowE.el {w : World} {B : Nat} {L : List Ed} (h : RowE w B L) : EL w (some ⟨B, 0, .none⟩) L := by
  intro i e he
  refine ⟨B, 0, rfl, h.lt, ?_, ?_, ?_, ?_⟩
  · rw [Nat.zero_add]; exact h.cell he 0 (by omega)
  · rw [Nat.zero_add]; exact h.cell he 1 (by omega)
  · rw [Nat.zero_add]; exact h.cell he 2 (by omega)
  · rw [Nat.zero_add]; exact h.cell he 3 (by omega)

theorem RowE.set {w : World} {B : Nat} {L : List Ed} (h : RowE w B L) {k : Nat} (e : Ed) (hk : k < L.length) :
    RowE ((((w.setCell ⟨B, k * 4, .none⟩ (.string e.id)).setCell ⟨B, k * 4 + 1, .none⟩ (.string e.src)).setCell ⟨B, k * 4 + 2, .none⟩ (.string e.dst)).setCell ⟨B, k * 4 + 3, .none⟩ (.bool e.err)) B (L.set k e) := by
  have h4 := (((World.rowIs.set h (k * 4) (.string e.id)).set (k * 4 + 1) (.string e.src)).set (k * 4 + 2) (.string e.dst)).set (k * 4 + 3) (.bool e.err)
  unfold RowE
  rw [List.length_set]
  refine h4.congr (fun q hq => ?_)
  have hs : (L.set k e)[q / 4]? = if q / 4 = k then some e else L[q / 4]? := by
    rw [List.getElem?_set]
    by_cases e1 : k = q / 4
    · rw [if_pos e1, if_pos (by omega), if_pos e1.symm]
    · rw [if_neg e1, if_neg (fun h => e1 h.symm)]
  unfold cellOf
  rw [hs]
  by_cases e1 : q / 4 = k
  · rw [if_pos e1]
    have hq4 : q = k * 4 + q % 4 := by omega
    have hlt : q % 4 < 4 := Nat.mod_lt _ (by omega)
    generalize q % 4 = f at *
    subst hq4
    rcases (show f = 0 ∨ f = 1 ∨ f = 2 ∨ f = 3 by omega) with rfl | rfl | rfl | rfl <;> simp [edf]
  · have n0 : ¬ q = k * 4 := by omega
    have n1 : ¬ q = k * 4 + 1 := by omega
    have n2 : ¬ q = k * 4 + 2 := by omega
    have n3 : ¬ q = k * 4 + 3 := by omega
    rw [if_neg e1]
    simp only [n0, n1, n2, n3, if_false]

theorem Tryf.info40 : (Tryf.prog.info? 40).map (fun i => (i.zero, i.size, i.bytes)) = some (some (.agg #[.string ByteArray.empty, .string ByteArray.empty, .string ByteArray.empty, .bool false]), 4, 56) := by kernel_rfl

theorem make28 (n : Nat) (hn : n ≤ 1048576) (w : World) : (Instr.makeSlice 28 (.int .i64 (n : Int)) (.int .i64 (n : Int))).run Tryf.prog w = .ok (.slice (some ⟨w.heap.size, 0, .none⟩) n n) (w.alloc (.cells (madeCells #[.string ByteArray.empty, .string ByteArray.empty, .string ByteArray.empty, .bool false] (n * 4)) 40)) := by
  obtain ⟨i, hi, hz⟩ := Option.map_eq_some_iff.1 Tryf.info40
  simp only [Prod.mk.injEq] at hz
  obtain ⟨h1, h2, h3⟩ := hz
  have h := run_make (P := Tryf.prog) w 28 40 i _ Tryf.underlying28 hi h1 .i64 .i64 (n : Int) (n : Int) (by omega) (Int.le_refl _) (by rw [h3]; omega) (by omega)
  rw [h2] at h
  simpa [Value.cells] using h

theorem made28 (w : World) (n : Nat) : RowE (w.alloc (.cells (madeCells #[.string ByteArray.empty, .string ByteArray.empty, .string ByteArray.empty, .bool false] (n * 4)) 40)) w.heap.size (List.replicate n zed) := by
  have h := World.rowIs_alloc w (madeCells #[.string ByteArray.empty, .string ByteArray.empty, .string ByteArray.empty, .bool false] (n * 4)) 40 (cellOf (List.replicate n zed)) (fun i hi => by
    rw [size_madeCells] at hi
    unfold cellOf
    rw [List.getElem?_replicate, if_pos (by omega)]
    have hlt : i % 4 < 4 := Nat.mod_lt _ (by omega)
    generalize hr : i % 4 = r at *
    rcases (show r = 0 ∨ r = 1 ∨ r = 2 ∨ r = 3 by omega) with rfl | rfl | rfl | rfl <;> simp [madeCells, hi, hr, edf, zed])
  rw [size_madeCells] at h
  unfold RowE
  rw [List.length_replicate]
  exact h

set_option maxRecDepth 100000 in
set_option maxHeartbeats 4000000 in
theorem toEdges (a : Option Addr) (cap : Nat) (l : List Ed) (w : World) (hl : l.length ≤ 1048576) (hE : EL w a l) :
    Calls Tryf.prog 13 #[.slice a l.length cap] w fun e w' => e = .returned (.slice (some ⟨w.heap.size, 0, .none⟩) l.length l.length) ∧ EL w' (some ⟨w.heap.size, 0, .none⟩) l ∧ Below w.heap.size w w' := by
  have hmk := make28 l.length hl
  have HE := hide hE
  clear hE
  generalize hn : l.length = n at hl hmk ⊢
  have HN := hide hn
  clear hn
  go_enter Tryf.func13, Tryf.ntmps13
  go_wp2_with fail
  go_loopg [4] (n + 1) (fun g v4 wr => ∃ (k : Nat) (L : List Ed), g = n + 1 - k ∧ k ≤ n ∧ v4 = .int .i64 k ∧ RowE wr w.heap.size L ∧ L.length = n ∧ L.take k = l.take k ∧ Below w.heap.size w wr)
  case atStart => exact ⟨0, _, rfl, Nat.zero_le _, rfl, made28 w n, by simp, rfl, (Below.refl _ w).alloc (Nat.le_refl _) _⟩
  case round =>
    obtain ⟨k, L, rfl, hk, rfl, hR, hLn, hLt, hB⟩ := hrel
    clear hmk
    by_cases h1 : k < n
    · obtain ⟨e, he⟩ := at_some l k (by rw [HN.out]; exact h1)
      obtain ⟨b, off, rfl, hb, c0, c1, c2, c3⟩ := (unhide HE) k e he
      have d0 := (hB.cell (p := ⟨b, off + k * 4, .none⟩) hb).trans c0
      have d1 := (hB.cell (p := ⟨b, off + k * 4 + 1, .none⟩) hb).trans c1
      have d2 := (hB.cell (p := ⟨b, off + k * 4 + 2, .none⟩) hb).trans c2
      have d3 := (hB.cell (p := ⟨b, off + k * 4 + 3, .none⟩) hb).trans c3
      obtain ⟨e', he'⟩ := at_some L k (by omega)
      have r0 := hR.cell he' 0 (by omega)
      have r1 := hR.cell he' 1 (by omega)
      have r2 := hR.cell he' 2 (by omega)
      have r3 := hR.cell he' 3 (by omega)
      have f0 := World.rowIs.frozen hR (k * 4)
      have f1 := World.rowIs.frozen hR (k * 4 + 1)
      have f2 := World.rowIs.frozen hR (k * 4 + 2)
      have f3 := World.rowIs.frozen hR (k * 4 + 3)
      rw [Nat.add_zero] at r0
      have hki : (k : Int) < (n : Int) := by omega
      have HX := hide (And.intro (hR.set e (k := k) (by omega)) (And.intro hLn (And.intro hLt (And.intro hB he))))
      clear hR hLn hLt hB he he' c0 c1 c2 c3
      go_wp2_with fail
      go_region
      go_wp2_with fail
      obtain ⟨x1, x2, x3, x4, x5⟩ := unhide HX
      go_roundg (n + 1 - (k + 1))
      case measure => omega
      case rel =>
        refine ⟨k + 1, L.set k e, rfl, by omega, by go_num, x1, by rw [List.length_set]; exact x2, ?_, ?_⟩
        · rw [List.take_add_one, List.take_add_one, List.getElem?_set, if_pos rfl, if_pos (by omega), x5, List.take_set_of_le (Nat.le_refl _), x3]
        · exact ((((x4.drew).setCell (Nat.le_refl _) _).setCell (Nat.le_refl _) _).setCell (Nat.le_refl _) _).setCell (Nat.le_refl _) _
    · obtain rfl : k = n := by omega
      have hLl : L = l := by
        rw [List.take_of_length_le (by omega), List.take_of_length_le (by rw [HN.out]; exact Nat.le_refl _)] at hLt
        exact hLt
      subst hLl
      have HX := hide (And.intro hR.el hB)
      clear hR hB hLt hLn
      go_wp2_with fail
      go_ret
      exact ⟨rfl, unhide HX⟩

end Go.Proofs.Qxb6614206aFmt
