import Derived.Test.Qxb6614206aFmtKahn
import Derived.Laws.IdiomStrings
set_option linter.unusedVariables false
set_option linter.unusedSimpArgs false
namespace Go.Proofs.Qxb6614206aFmt
open Go.RowKit

/-- A byte that an id may bear. -/
def IdZ (x : Int) : Prop := (97 ≤ x ∧ x ≤ 122) ∨ (65 ≤ x ∧ x ≤ 90) ∨ (48 ≤ x ∧ x ≤ 57) ∨ x = 95 ∨ x = 45

/-- A well formed id. -/
def vId (s : ByteArray) : Prop := s.size ≠ 0 ∧ ∀ (k : Nat) (h : k < s.size), IdZ ((s[k]'h).toNat : Int)

def BoolIs (p : Prop) (e : Ending) : Prop := ∃ b, e = .returned (.bool b) ∧ (b = true ↔ p)

set_option maxHeartbeats 2000000 in
theorem idByte (x : Int) (w : World) : Calls Tryf.prog 23 #[.int .u8 x] w fun e w' => BoolIs (IdZ x) e ∧ w' = w := by
  go_enter Tryf.func23, Tryf.ntmps23
  go_wp2
  all_goals
    go_ret
    refine ⟨⟨_, rfl, ?_⟩, rfl⟩
    unfold IdZ
    first
      | (refine ⟨fun _ => ?_, fun _ => rfl⟩; omega)
      | (refine ⟨fun h => (Bool.noConfusion h), fun h => ?_⟩; exfalso; omega)
      | (simp only [Bool.or_eq_true, Bool.and_eq_true, decide_eq_true_eq, beq_iff_eq]; omega)

set_option maxHeartbeats 2000000 in
theorem zzValid (s : ByteArray) (hs : s.size ≤ maxLen) (w : World) : Calls Tryf.prog 15 #[.string s] w fun e w' => ∃ b, e = .returned (.bool b) ∧ (b = true ↔ vId s) ∧ w' = w := by
  unfold maxLen at hs
  by_cases h0 : s.size = 0
  · go_enter Tryf.func15, Tryf.ntmps15
    go_wp2_with fail
    go_ret
    exact ⟨_, rfl, ⟨fun h => (Bool.noConfusion h), fun h => absurd h0 h.1⟩, rfl⟩
  · have hq : ((s.size : Int) == 0) = false := by rw [beq_eq_false_iff_ne]; omega
    go_enter Tryf.func15, Tryf.ntmps15
    go_wp2_with fail
    go_loopg [3] (s.size + 1) (fun g v3 wr => ∃ k : Nat, g = s.size + 1 - k ∧ k ≤ s.size ∧ v3 = .int .i64 k ∧ (∀ (j : Nat) (h : j < s.size), j < k → IdZ ((s[j]'h).toNat : Int)) ∧ w = wr)
    case atStart => exact ⟨0, rfl, Nat.zero_le _, rfl, fun j h hj => absurd hj (Nat.not_lt_zero _), rfl⟩
    case round =>
      obtain ⟨k, rfl, hk, rfl, hall, hw⟩ := hrel
      subst hw
      have HA := hide hall
      clear hall
      by_cases h1 : k < s.size
      · by_cases h2 : IdZ ((s[k]'h1).toNat : Int)
        · have HD := hide h2
          go_wp2_with (go_at_call 23; refine (idByte _ _).mono ?_; rintro e w' ⟨⟨bb, rfl, hbb⟩, rfl⟩; obtain rfl : bb = true := hbb.2 (unhide HD); clear hbb)
          go_roundg (s.size + 1 - (k + 1))
          case measure => omega
          case rel =>
            refine ⟨k + 1, rfl, by omega, by go_num, fun j hj hjk => ?_, rfl⟩
            by_cases e : j = k
            · subst e; exact unhide HD
            · exact unhide HA j hj (by omega)
        · have HD := hide h2
          go_wp2_with (go_at_call 23; refine (idByte _ _).mono ?_; rintro e w' ⟨⟨bb, rfl, hbb⟩, rfl⟩; obtain rfl : bb = false := (Bool.eq_false_iff.2 (fun h => unhide HD (hbb.1 h))); clear hbb)
          go_ret
          exact ⟨_, rfl, ⟨fun h => (Bool.noConfusion h), fun h => absurd (h.2 k h1) (unhide HD)⟩, rfl⟩
      · go_wp2_with fail
        go_ret
        exact ⟨_, rfl, ⟨fun _ => ⟨h0, fun j hj => unhide HA j hj (by omega)⟩, fun _ => rfl⟩, rfl⟩

/-- '[]byte(s)': the bytes lie there. -/
theorem row_cell (w : World) (s : ByteArray) (cap : Nat) (fr : Nat × Nat) (e : TypeId) (k : Nat) (hk : k < s.size) : ((w.drew).alloc (.cells (bytesRow s cap) e fr)).cell? ⟨w.heap.size, k, .none⟩ = some (.int .u8 ((s[k]'hk).toNat : Nat)) := by
  have hk' : k < s.data.size := hk
  have hb : ((w.drew).alloc (.cells (bytesRow s cap) e fr)).heap[w.heap.size]? = some (.cells (bytesRow s cap) e fr) := by
    show (w.heap.push (.cells (bytesRow s cap) e fr))[w.heap.size]? = _
    simp
  simp only [World.cell?, hb]
  rw [bytesRow, Array.getElem?_append_left (by simpa using hk'), Array.getElem?_map, Array.getElem?_eq_getElem hk']
  rfl

set_option maxHeartbeats 4000000 in
theorem prefixLen (s : ByteArray) (hs : s.size ≤ maxLen) (w : World) : Calls Tryf.prog 24 #[.string s] w fun e w' => ∃ k : Nat, e = .returned (.int .i64 k) ∧ k ≤ s.size ∧ (k = s.size ↔ ∀ (j : Nat) (h : j < s.size), IdZ ((s[j]'h).toNat : Int)) ∧ Below w.heap.size w w' := by
  unfold maxLen at hs
  have hcv := fun w => run_bytes_of_string (P := Tryf.prog) w 9 69 5 s Tryf.underlying9 Tryf.underlying69 Tryf.underlying5
  have hcell := fun cap fr e k hk => row_cell w s cap fr e k hk
  go_enter Tryf.func24, Tryf.ntmps24
  go_wp2_with fail
  go_loopg [8] (s.size + 1) (fun g v8 wr => ∃ k : Nat, g = s.size + 1 - k ∧ k ≤ s.size ∧ v8 = .int .i64 k ∧ (∀ (j : Nat) (h : j < s.size), j < k → IdZ ((s[j]'h).toNat : Int)) ∧
    (∀ (j : Nat) (h : j < s.size), wr.cell? ⟨w.heap.size, j, .none⟩ = some (.int .u8 ((s[j]'h).toNat : Nat))) ∧ Below w.heap.size w wr)
  case atStart => exact ⟨0, rfl, Nat.zero_le _, rfl, fun j h hj => absurd hj (Nat.not_lt_zero _), fun j h => row_cell w s _ _ _ j h, ((Below.refl _ w).drew).alloc (Nat.le_refl _) _⟩
  case round =>
    obtain ⟨k, rfl, hk, rfl, hall, hc, hB⟩ := hrel
    have HA := hide (And.intro hall (And.intro hc hB))
    clear hall hcv hcell
    by_cases h1 : k < s.size
    · have c0 := hc k h1
      have HE : Hid (∀ x : Int, x = ((s[k]'h1).toNat : Int) → (IdZ x ↔ IdZ ((s[k]'h1).toNat : Int))) := hide (fun x e => by rw [e])
      generalize hx : ((s[k]'h1).toNat : Int) = x at c0
      have HX := hide hx
      clear hx hc hB
      go_wp2_with fail
      all_goals first
        | (go_roundg (s.size + 1 - (k + 1))
           case measure => omega
           case rel =>
             refine ⟨k + 1, rfl, by omega, by go_num, fun j hj hjk => ?_, (unhide HA).2⟩
             by_cases e : j = k
             · subst e
               rw [unhide HX]
               unfold IdZ
               first | omega | (simp at *; omega)
             · exact (unhide HA).1 j hj (by omega))
        | (go_ret
           refine ⟨k, rfl, hk, ⟨fun h => absurd h (by omega), fun h => ?_⟩, (unhide HA).2.2⟩
           have h2 := h k h1
           rw [unhide HX] at h2
           unfold IdZ at h2
           exfalso
           first | omega | (simp at *; omega))
    · obtain rfl : k = s.size := by omega
      clear hc hB
      go_wp2_with fail
      go_ret
      exact ⟨s.size, rfl, Nat.le_refl _, ⟨fun _ j hj => (unhide HA).1 j hj hj, fun _ => rfl⟩, (unhide HA).2.2⟩

theorem tl_eq (a b : ByteArray) : (a.toList == b.toList) = decide (a = b) := by
  rw [ByteArray.toList_eq, ByteArray.toList_eq, Bool.eq_iff_iff, beq_iff_eq, decide_eq_true_eq]
  exact ⟨str_inj, fun h => by rw [h]⟩

theorem tl_nil (a : ByteArray) : (a.toList == []) = decide (a.size = 0) := by
  rw [ByteArray.toList_eq, Bool.eq_iff_iff, beq_iff_eq, decide_eq_true_eq]
  have : a.size = a.data.toList.length := by simp
  rw [this, List.length_eq_zero_iff]

theorem validID (s : ByteArray) (hs : s.size ≤ maxLen) (w : World) : Calls Tryf.prog 18 #[.string s] w fun e w' => ∃ b, e = .returned (.bool b) ∧ (b = true ↔ vId s) ∧ Below w.heap.size w w' := by
  by_cases h0 : s.size = 0
  · have hq : (s.toList == []) = true := by rw [tl_nil]; exact decide_eq_true h0
    go_enter Tryf.func18, Tryf.ntmps18
    go_wp2_with fail
    go_ret
    exact ⟨false, rfl, ⟨fun h => (Bool.noConfusion h), fun h => absurd h0 h.1⟩, Below.refl _ w⟩
  · have hq : (s.toList == []) = false := by rw [tl_nil]; exact decide_eq_false h0
    go_enter Tryf.func18, Tryf.ntmps18
    go_wp2_with (go_at_call 24; refine (prefixLen s hs _).mono ?_; rintro e w' ⟨k, rfl, hk, hk2, hB⟩)
    go_ret
    refine ⟨((k : Int) == (s.size : Int)), rfl, ?_, hB⟩
    rw [beq_iff_eq]
    exact ⟨fun h => ⟨h0, hk2.1 (by omega)⟩, fun h => by have := hk2.2 h.2; omega⟩

end Go.Proofs.Qxb6614206aFmt
