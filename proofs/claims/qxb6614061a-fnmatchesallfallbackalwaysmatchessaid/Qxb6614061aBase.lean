import Derived.Test.Qxb6614061aRows
import Derived.WalkKit
import Derived.WalkSpells
import Derived.Deep.OwnRows
import Derived.Deep.LoopGhost
import Derived.Deep.QuietTactic
import Derived.BigQuiet
set_option linter.unusedVariables false
set_option linter.unusedSimpArgs false
namespace Go.Proofs.Qxb6614061a
open Go.RowKit

theorem hide {p : Prop} (h : p) : Hid p := h
theorem unhide {p : Prop} (h : Hid p) : p := h

/-- A slice of strings that came in. -/
def StrAt (w : World) (a : Option Addr) (n : Nat) (S : Nat → ByteArray) : Prop :=
  ∀ j : Nat, j < n → ∃ b off, a = some ⟨b, off, .none⟩ ∧ b < w.heap.size ∧ w.cell? ⟨b, off + j, .none⟩ = some (.string (S j)) ∧ (S j).size ≤ maxLen

/-- The sets that came in. -/
structure Sets (w : World) (a : Option Addr) (n : Nat) (A : Nat → Option Addr) (L C : Nat → Nat) (S : Nat → Nat → ByteArray) : Prop where
  row : ∀ i : Nat, i < n → ∃ b off, a = some ⟨b, off, .none⟩ ∧ b < w.heap.size ∧ w.cell? ⟨b, off + i, .none⟩ = some (.slice (A i) (L i) (C i))
  str : ∀ i : Nat, i < n → StrAt w (A i) (L i) (S i)
  le : ∀ i : Nat, i < n → L i ≤ maxLen

/-- The keys that came in. -/
def Keys (w : World) (a : Option Addr) (n : Nat) (c : Nat → Bool) (v : Nat → ByteArray) : Prop :=
  ∀ i : Nat, i < n → ∃ b off, a = some ⟨b, off, .none⟩ ∧ b < w.heap.size ∧ w.cell? ⟨b, off + i * 2, .none⟩ = some (.bool (c i)) ∧ w.cell? ⟨b, off + i * 2 + 1, .none⟩ = some (.string (v i)) ∧ (v i).size ≤ maxLen

/-- It returned some integer. -/
def IsInt (e : Ending) : Prop := ∃ z, e = .returned (.int .i64 z)

theorem add_any (x y : Int) (w : World) : Calls Try.prog 15 #[.int .i64 x, .int .i64 y] w fun e w' => IsInt e ∧ w' = w := by
  by_cases h1 : 1048576 < x
  · go_enter Try.func15, Try.ntmps15
    go_wp2
    go_ret
    exact ⟨⟨_, rfl⟩, rfl⟩
  · by_cases h2 : 1048576 < y
    · go_enter Try.func15, Try.ntmps15
      go_wp2
      go_ret
      exact ⟨⟨_, rfl⟩, rfl⟩
    · go_enter Try.func15, Try.ntmps15
      go_wp2
      go_ret
      exact ⟨⟨_, rfl⟩, rfl⟩

theorem addWords_any (x y z : Int) (w : World) : Calls Try.prog 14 #[.int .i64 x, .int .i64 y, .int .i64 z] w fun e w' => IsInt e ∧ w' = w := by
  by_cases h1 : 1048576 < y
  · go_enter Try.func14, Try.ntmps14
    go_wp2_with fail
    go_ret
    exact ⟨⟨_, rfl⟩, rfl⟩
  · go_enter Try.func14, Try.ntmps14
    go_wp2_with (go_at_call 15; refine (add_any _ _ _).mono ?_; rintro e w' ⟨⟨z', rfl⟩, rfl⟩)
    go_ret
    exact ⟨⟨_, rfl⟩, rfl⟩

set_option maxHeartbeats 1000000 in
theorem size_any (a ka : Option Addr) (n cap kn kcap : Nat) (A : Nat → Option Addr) (L C : Nat → Nat) (S : Nat → Nat → ByteArray) (c : Nat → Bool) (v : Nat → ByteArray) (w : World)
    (hn : n ≤ 1048576) (hkn : kn ≤ 1048576) (hS : Sets w a n A L C S) (hK : Keys w ka kn c v) :
    Calls Try.prog 6 #[.slice a n cap, .slice ka kn kcap] w fun e w' => IsInt e ∧ w' = w := by
  have HS := hide hS
  have HK := hide hK
  clear hS hK
  go_enter Try.func6, Try.ntmps6
  go_wp2_with (go_at_call 14; refine (addWords_any _ _ _ _).mono ?_; rintro e w' ⟨⟨z', rfl⟩, rfl⟩)
  go_loopg [5, 6] (n + 1) (fun g v5 v6 wr => ∃ (k : Nat) (z : Int), g = n + 1 - k ∧ k ≤ n ∧ v6 = .int .i64 k ∧ v5 = .int .i64 z ∧ w' = wr)
  case atStart => exact ⟨0, z', rfl, Nat.zero_le _, rfl, rfl, rfl⟩
  case round =>
    obtain ⟨k, z, rfl, hk, rfl, rfl, hw⟩ := hrel
    subst hw
    by_cases hc : k < n ∧ z ≤ 1048576
    · obtain ⟨h1, h2⟩ := hc
      obtain ⟨b, off, rfl, hb, hcell⟩ := HS.out.row k h1
      have hLm := HS.out.le k h1
      unfold maxLen at hLm
      generalize hLk : L k = l at hcell hLm
      generalize hAk : A k = ak at hcell
      generalize hCk : C k = ck at hcell
      have hstr : Hid (StrAt w' ak l (S k)) := by rw [← hLk, ← hAk]; exact HS.out.str k h1
      clear hLk hAk hCk
      go_wp2_with (go_at_call 14; refine (addWords_any _ _ _ _).mono ?_; rintro e w1 ⟨⟨z2, rfl⟩, rfl⟩)
      go_loopg [5, 7] (l + 1) (fun g v5 v7 wr => ∃ (m : Nat) (z : Int), g = l + 1 - m ∧ m ≤ l ∧ v7 = .int .i64 m ∧ v5 = .int .i64 z ∧ w1 = wr)
      case atStart => exact ⟨0, z2, rfl, Nat.zero_le _, rfl, rfl, rfl⟩
      case round =>
        obtain ⟨m, z3, rfl, hm, rfl, rfl, hw⟩ := hrel
        subst hw
        by_cases hc : m < l ∧ z3 ≤ 1048576
        · obtain ⟨h3, h4⟩ := hc
          obtain ⟨b2, off2, rfl, hb2, hcell2, hs2⟩ := hstr.out m h3
          generalize S k m = st at hcell2 hs2
          unfold maxLen at hs2
          go_wp2_with (go_at_call 15; refine (add_any _ _ _).mono ?_; rintro e w2 ⟨⟨z4, rfl⟩, rfl⟩)
          go_roundg (l + 1 - (m + 1))
          case measure => omega
          case rel => exact ⟨m + 1, z4, rfl, by omega, by go_num, rfl, rfl⟩
        · rcases (show (¬ m < l) ∨ (m < l ∧ 1048576 < z3) by omega) with h3 | ⟨h3, h4⟩
          all_goals
            clear hc
            go_wp2_with fail
            go_roundg (n + 1 - (k + 1))
            case measure => omega
            case rel => exact ⟨k + 1, z3, rfl, by omega, by go_num, rfl, rfl⟩
    · rcases (show (¬ k < n) ∨ (k < n ∧ 1048576 < z) by omega) with h1 | ⟨h1, h2⟩
      all_goals
        clear hc
        go_wp2_with (go_at_call 14; refine (addWords_any _ _ _ _).mono ?_; rintro e w1 ⟨⟨z2, rfl⟩, rfl⟩)
        go_loopg [5, 8] (kn + 1) (fun g v5 v8 wr => ∃ (m : Nat) (z : Int), g = kn + 1 - m ∧ m ≤ kn ∧ v8 = .int .i64 m ∧ v5 = .int .i64 z ∧ w1 = wr)
        case atStart => exact ⟨0, z2, rfl, Nat.zero_le _, rfl, rfl, rfl⟩
        case round =>
          obtain ⟨m, z3, rfl, hm, rfl, rfl, hw⟩ := hrel
          subst hw
          by_cases hc : m < kn ∧ z3 ≤ 1048576
          · obtain ⟨h3, h4⟩ := hc
            obtain ⟨b2, off2, rfl, hb2, _, hcell2, hs2⟩ := HK.out m h3
            generalize v m = st at hcell2 hs2
            unfold maxLen at hs2
            go_wp2_with (go_at_call 15; refine (add_any _ _ _).mono ?_; rintro e w2 ⟨⟨z4, rfl⟩, rfl⟩)
            go_roundg (kn + 1 - (m + 1))
            case measure => omega
            case rel => exact ⟨m + 1, z4, rfl, by omega, by go_num, rfl, rfl⟩
          · rcases (show (¬ m < kn) ∨ (m < kn ∧ 1048576 < z3) by omega) with h3 | ⟨h3, h4⟩
            all_goals
              clear hc
              go_wp2_with fail
              go_ret
              exact ⟨⟨_, rfl⟩, rfl⟩

end Go.Proofs.Qxb6614061a
