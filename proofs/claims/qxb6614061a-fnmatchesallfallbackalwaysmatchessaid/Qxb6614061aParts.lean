import Derived.Test.Qxb6614061aBytes
set_option linter.unusedVariables false
set_option linter.unusedSimpArgs false
namespace Go.Proofs.Qxb6614061a
open Go.RowKit

theorem Try.info9 : (Try.prog.info? 9).map (fun i => (i.zero, i.size, i.bytes)) = some (some (.string ByteArray.empty), 1, 16) := by kernel_rfl
theorem Try.info4 : (Try.prog.info? 4).map (fun i => (i.zero, i.size, i.bytes)) = some (some (.bool false), 1, 1) := by kernel_rfl

/-- The two new rows: block b holds the strings, block b + 1 the bools. -/
structure Two (w : World) (b n : Nat) (v : Nat → ByteArray) (c : Nat → Bool) : Prop where
  vals : w.rowIs b 9 n (fun i => .string (v i))
  caught : w.rowIs (b + 1) 4 n (fun i => .bool (c i))

abbrev SL (b n : Nat) : Value := .slice (some ⟨b, 0, .none⟩) n n

/-- While the first k places are filled. -/
def part {α : Type} (z : α) (f : Nat → α) (k : Nat) : Nat → α := fun i => if i < k then f i else z

theorem Two.step {w : World} {b n k : Nat} {v : Nat → ByteArray} {c : Nat → Bool} (h : Two w b n (part ByteArray.empty v k) (part false c k)) :
    Two ((w.setCell ⟨b, k, .none⟩ (.string (v k))).setCell ⟨b + 1, k, .none⟩ (.bool (c k))) b n (part ByteArray.empty v (k + 1)) (part false c (k + 1)) := by
  refine ⟨((h.vals.set k _).setOther (by simp) _).congr (fun i hi => ?_), ((h.caught.setOther (by simp) _).set k _).congr (fun i hi => ?_)⟩
  · unfold part
    by_cases e : i = k
    · subst e; simp
    · simp only [e, if_false]
      by_cases e2 : i < k
      · rw [if_pos e2, if_pos (by omega)]
      · rw [if_neg e2, if_neg (by omega)]
  · unfold part
    by_cases e : i = k
    · subst e; simp
    · simp only [e, if_false]
      by_cases e2 : i < k
      · rw [if_pos e2, if_pos (by omega)]
      · rw [if_neg e2, if_neg (by omega)]

theorem Two.start (w : World) (n : Nat) (v : Nat → ByteArray) (c : Nat → Bool) :
    Two ((w.alloc (.cells (madeCells #[.string ByteArray.empty] n) 9)).alloc (.cells (madeCells #[.bool false] n) 4)) w.heap.size n (part ByteArray.empty v 0) (part false c 0) := by
  refine ⟨((World.rowIs_made w (.string ByteArray.empty) n 9).alloc _).congr (fun i hi => by simp [part]), ?_⟩
  have h := World.rowIs_made (w.alloc (.cells (madeCells #[.string ByteArray.empty] n) 9)) (.bool false) n 4
  simp only [World.size_alloc] at h
  exact h.congr (fun i hi => by simp [part])

theorem Two.done {w : World} {b n : Nat} {v : Nat → ByteArray} {c : Nat → Bool} (h : Two w b n (part ByteArray.empty v n) (part false c n)) : Two w b n v c :=
  ⟨h.vals.congr (fun i hi => by simp [part, hi]), h.caught.congr (fun i hi => by simp [part, hi])⟩

set_option maxHeartbeats 1000000 in
theorem keyParts (ka : Option Addr) (kn kcap : Nat) (c : Nat → Bool) (v : Nat → ByteArray) (w : World) (hkn : kn ≤ 1048576) (hK : Keys w ka kn c v) :
    Calls Try.prog 7 #[.slice ka kn kcap] w fun e w' => e = .returned (.tuple #[SL w.heap.size kn, SL (w.heap.size + 1) kn]) ∧ Two w' w.heap.size kn v c ∧ Below w.heap.size w w' ∧ w'.heap.size = w.heap.size + 2 := by
  have hmk1 := run_make_row' (P := Try.prog) 26 9 (.string ByteArray.empty) 16 Try.underlying26 Try.info9 rfl .i64 .i64 kn (by omega) (by omega)
  have hmk2 := run_make_row' (P := Try.prog) 27 4 (.bool false) 1 Try.underlying27 Try.info4 rfl .i64 .i64 kn (by omega) (by omega)
  have HK := hide hK
  clear hK
  go_enter Try.func7, Try.ntmps7
  go_wp2_with fail
  go_loopg [6] (kn + 1) (fun g v6 wr => ∃ (k : Nat), g = kn + 1 - k ∧ k ≤ kn ∧ v6 = .int .i64 k ∧ Two wr w.heap.size kn (part ByteArray.empty v k) (part false c k) ∧ Below w.heap.size w wr ∧ wr.heap.size = w.heap.size + 2)
  case atStart => exact ⟨0, rfl, Nat.zero_le _, rfl, Two.start w kn v c, ((Below.refl _ w).alloc (Nat.le_refl _) _).alloc (by simp) _, by simp⟩
  case round =>
    obtain ⟨k, rfl, hk, rfl, hT, hB, hs⟩ := hrel
    clear hmk1 hmk2
    by_cases h1 : k < kn
    · obtain ⟨b, off, rfl, hb, hc1, hc2, hs2⟩ := HK.out k h1
      have c1 : wr.cell? ⟨b, off + k * 2, .none⟩ = some (.bool (c k)) := (hB.cell hb).trans hc1
      have c2 : wr.cell? ⟨b, off + k * 2 + 1, .none⟩ = some (.string (v k)) := (hB.cell hb).trans hc2
      have r1 := hT.vals.cell h1
      have r2 := hT.caught.cell h1
      have f1 := hT.vals.frozen k
      have f2 := hT.caught.frozen k
      have n1 : w.heap.size ≠ b := by omega
      have n2 : w.heap.size + 1 ≠ b := by omega
      have HT := hide (And.intro hT.step (And.intro ((hB.setCell (p := ⟨w.heap.size, k, .none⟩) (Nat.le_refl _) (.string (v k))).setCell (p := ⟨w.heap.size + 1, k, .none⟩) (Nat.le_succ _) (.bool (c k))) hs))
      clear hT hB hc1 hc2 hs
      go_wp2_with fail
      go_roundg (kn + 1 - (k + 1))
      case measure => omega
      case rel => exact ⟨k + 1, rfl, by omega, by go_num, (unhide HT).1, (unhide HT).2.1, by simpa using (unhide HT).2.2⟩
    · obtain rfl : k = kn := by omega
      have HT := hide (And.intro hT.done (And.intro hB hs))
      clear hT hB hs
      go_wp2_with fail
      go_ret2
      exact ⟨rfl, unhide HT⟩

set_option maxHeartbeats 1000000 in
theorem allCatch (kn : Nat) (w : World) (hkn : kn ≤ 1048576) :
    Calls Try.prog 9 #[.int .i64 kn] w fun e w' => e = .returned (.tuple #[SL w.heap.size kn, SL (w.heap.size + 1) kn]) ∧ Two w' w.heap.size kn (fun _ => ByteArray.empty) (fun _ => true) ∧ Below w.heap.size w w' ∧ w'.heap.size = w.heap.size + 2 := by
  have hmk1 := run_make_row' (P := Try.prog) 26 9 (.string ByteArray.empty) 16 Try.underlying26 Try.info9 rfl .i64 .i64 kn (by omega) (by omega)
  have hmk2 := run_make_row' (P := Try.prog) 27 4 (.bool false) 1 Try.underlying27 Try.info4 rfl .i64 .i64 kn (by omega) (by omega)
  go_enter Try.func9, Try.ntmps9
  go_wp2_with fail
  go_loopg [6] (kn + 1) (fun g v6 wr => ∃ (k : Nat), g = kn + 1 - k ∧ k ≤ kn ∧ v6 = .int .i64 k ∧ Two wr w.heap.size kn (fun _ => ByteArray.empty) (part false (fun _ => true) k) ∧ Below w.heap.size w wr ∧ wr.heap.size = w.heap.size + 2)
  case atStart =>
    have h0 := Two.start w kn (fun _ => ByteArray.empty) (fun _ => true)
    exact ⟨0, rfl, Nat.zero_le _, rfl, ⟨h0.vals.congr (fun i _ => by simp [part]), h0.caught⟩, ((Below.refl _ w).alloc (Nat.le_refl _) _).alloc (by simp) _, by simp⟩
  case round =>
    obtain ⟨k, rfl, hk, rfl, hT, hB, hs⟩ := hrel
    clear hmk1 hmk2
    by_cases h1 : k < kn
    · have r2 := hT.caught.cell h1
      have f2 := hT.caught.frozen k
      have hnew : Two (wr.setCell ⟨w.heap.size + 1, k, .none⟩ (.bool true)) w.heap.size kn (fun _ => ByteArray.empty) (part false (fun _ => true) (k + 1)) := by
        refine ⟨hT.vals.setOther (by simp) _, (hT.caught.set k _).congr (fun i hi => ?_)⟩
        unfold part
        by_cases e : i = k
        · subst e; simp
        · simp only [e, if_false]
          by_cases e2 : i < k
          · rw [if_pos e2, if_pos (by omega)]
          · rw [if_neg e2, if_neg (by omega)]
      have HT := hide (And.intro hnew (And.intro (hB.setCell (p := ⟨w.heap.size + 1, k, .none⟩) (Nat.le_succ _) (.bool true)) hs))
      clear hT hB hs hnew
      go_wp2_with fail
      go_roundg (kn + 1 - (k + 1))
      case measure => omega
      case rel => exact ⟨k + 1, rfl, by omega, by go_num, (unhide HT).1, (unhide HT).2.1, by simpa using (unhide HT).2.2⟩
    · obtain rfl : k = kn := by omega
      have hnew : Two wr w.heap.size k (fun _ => ByteArray.empty) (fun _ => true) := ⟨hT.vals, hT.caught.congr (fun i hi => by simp [part, hi])⟩
      have HT := hide (And.intro hnew (And.intro hB hs))
      clear hT hB hs hnew
      go_wp2_with fail
      go_ret2
      exact ⟨rfl, unhide HT⟩

end Go.Proofs.Qxb6614061a
