import Derived.Test.Qxb6614081aRows
import Derived.WalkKit
import Derived.WalkSpells
import Derived.WalkLawsBesides
import Derived.Deep.OwnRows
import Derived.Deep.LoopGhost
import Derived.Deep.QuietTactic
import Derived.BigQuiet
import Derived.LaidEqlPtr
import Derived.Maps.RangeRun
set_option linter.unusedVariables false
set_option linter.unusedSimpArgs false
namespace Go.Proofs.Qxb6614081a
open Go.RowKit

theorem hide {p : Prop} (h : p) : Hid p := h
theorem unhide {p : Prop} (h : Hid p) : p := h

def exclS : ByteArray := ⟨#[101, 120, 99, 108, 117, 115, 105, 118, 101]⟩
def sharS : ByteArray := ⟨#[115, 104, 97, 114, 101, 100]⟩
/-- The mode's string. -/
def modeS (b : Bool) : ByteArray := if b then exclS else sharS

theorem newKey (w : World) : Calls Try.prog 5 #[] w fun e w' => e = .returned (.pointer (some ⟨w.heap.size + 2, 0, .none⟩)) ∧
    w' = ((w.alloc (.map #[] 0)).alloc (.map #[] 0)).alloc (.cells #[.map (some w.heap.size), .map (some (w.heap.size + 1)), .chan .none] 34) := by
  have hmm := @run_makeMap Try.prog
  go_enter Try.func5, Try.ntmps5
  go_wp2
  go_ret
  exact ⟨rfl, rfl⟩

theorem newOwner (id : ByteArray) (age : Int) (w : World) : Calls Try.prog 6 #[.string id, .int .i64 age] w fun e w' => e = .returned (.pointer (some ⟨w.heap.size + 1, 0, .none⟩)) ∧
    ∃ cs, w' = (w.alloc (.map #[] 0)).alloc (.cells cs 46) ∧ cs[0]? = some (.string id) ∧ cs[1]? = some (.int .i64 age) ∧ cs[2]? = some (.string ByteArray.empty) ∧ cs.size = 13 := by
  have hmm := @run_makeMap Try.prog
  go_enter Try.func6, Try.ntmps6
  go_wp2
  go_ret
  exact ⟨rfl, _, rfl, rfl, rfl, rfl, rfl⟩

theorem mode_any (b : Bool) (w : World) : Calls Try.prog 10 #[.bool b] w fun e w' => e = .returned (.string (modeS b)) ∧ w' = w := by
  cases b
  · go_enter Try.func10, Try.ntmps10
    go_wp2
    go_ret
    exact ⟨rfl, rfl⟩
  · go_enter Try.func10, Try.ntmps10
    go_wp2
    go_ret
    exact ⟨rfl, rfl⟩

theorem conflict_any (a b : Bool) (w : World) : Calls Try.prog 12 #[.string (modeS a), .string (modeS b)] w fun e w' => e = .returned (.bool (a || b)) ∧ w' = w := by
  cases a <;> cases b
  all_goals
    unfold modeS exclS sharS
    go_enter Try.func12, Try.ntmps12
    go_wp2
    go_ret
    exact ⟨rfl, rfl⟩

def IsBool (e : Ending) : Prop := ∃ b, e = .returned (.bool b)

theorem bytes_any (x y : ByteArray) (a b : Int) (c d : Bool) (w : World) (hx : x.size ≤ maxLen) (hy : y.size ≤ maxLen) :
    Calls Try.prog 4 #[.string x, .int .i64 a, .bool c, .string y, .int .i64 b, .bool d] w fun e w' => IsBool e ∧ w' = w := by
  unfold maxLen at hx hy
  by_cases h1 : 1048576 < x.size
  · go_enter Try.func4, Try.ntmps4
    go_wp2
    go_ret
    exact ⟨⟨_, rfl⟩, rfl⟩
  · by_cases h2 : 1048576 < y.size
    · go_enter Try.func4, Try.ntmps4
      go_wp2
      go_ret
      exact ⟨⟨_, rfl⟩, rfl⟩
    · by_cases h3 : 1048576 < x.size + y.size
      · go_enter Try.func4, Try.ntmps4
        go_wp2
        go_ret
        exact ⟨⟨_, rfl⟩, rfl⟩
      · go_enter Try.func4, Try.ntmps4
        go_wp2
        go_ret
        exact ⟨⟨_, rfl⟩, rfl⟩

/-- The older of two: by age, then by id. -/
def older (a : Int) (x : ByteArray) (b : Int) (y : ByteArray) : Bool := if a = b then Op.bytesLess x.toList y.toList else decide (a < b)

theorem older_any (x y : ByteArray) (a b : Int) (w : World) :
    Calls Try.prog 9 #[.int .i64 a, .string x, .int .i64 b, .string y] w fun e w' => e = .returned (.bool (older a x b y)) ∧ w' = w := by
  by_cases h : a = b
  · have hn : (a != b) = false := by simp [h]
    have ho : older a x b y = Op.bytesLess x.toList y.toList := by simp [older, h]
    rw [ho]
    clear h ho
    go_enter Try.func9, Try.ntmps9
    go_wp2
    go_ret
    exact ⟨rfl, rfl⟩
  · have hn : (a != b) = true := by simp [h]
    have ho : older a x b y = decide (a < b) := by simp [older, h]
    rw [ho]
    clear h ho
    go_enter Try.func9, Try.ntmps9
    go_wp2
    go_ret
    exact ⟨rfl, rfl⟩

abbrev OW (x : ByteArray) (a : Int) : Array Value := #[.string x, .int .i64 a, .string ByteArray.empty]

theorem olderThan_any (x y : ByteArray) (a b : Int) (w : World) :
    Calls Try.prog 13 #[.agg (OW x a), .agg (OW y b)] w fun e w' => e = .returned (.bool (older a x b y)) ∧ w' = (w.alloc (.cells (OW x a) 37)).alloc (.cells (OW y b) 37) := by
  by_cases h : a = b
  · have hn : (a != b) = false := by simp [h]
    have ho : older a x b y = Op.bytesLess x.toList y.toList := by simp [older, h]
    rw [ho]
    clear h ho
    go_enter Try.func13, Try.ntmps13
    go_wp2
    go_ret
    exact ⟨rfl, rfl⟩
  · have hn : (a != b) = true := by simp [h]
    have ho : older a x b y = decide (a < b) := by simp [older, h]
    rw [ho]
    clear h ho
    go_enter Try.func13, Try.ntmps13
    go_wp2
    go_ret
    exact ⟨rfl, rfl⟩

theorem less_asymm : ∀ x y : List UInt8, Op.bytesLess x y = true → Op.bytesLess y x = false
  | [], [], h => by simp [Op.bytesLess] at h
  | _ :: _, [], h => by simp [Op.bytesLess] at h
  | [], _ :: _, h => by simp [Op.bytesLess]
  | a :: x, b :: y, h => by
    simp only [Op.bytesLess, Bool.or_eq_true, Bool.and_eq_true, decide_eq_true_eq, beq_iff_eq] at h
    simp only [Op.bytesLess, Bool.or_eq_false_iff, Bool.and_eq_false_iff, decide_eq_false_iff_not]
    rcases h with h | ⟨rfl, h⟩
    · refine ⟨?_, .inl ?_⟩
      · rw [UInt8.lt_iff_toNat_lt] at *; omega
      · simp only [beq_eq_false_iff_ne, ne_eq]
        intro e
        subst e
        rw [UInt8.lt_iff_toNat_lt] at h
        omega
    · refine ⟨?_, .inr (less_asymm x y h)⟩
      rw [UInt8.lt_iff_toNat_lt]; omega

theorem older_asymm (a : Int) (x : ByteArray) (b : Int) (y : ByteArray) (h : older a x b y = true) : older b y a x = false := by
  unfold older at *
  by_cases e : a = b
  · subst e
    simp only [if_true] at *
    exact less_asymm _ _ h
  · rw [if_neg e] at h
    rw [if_neg (fun e' => e e'.symm)]
    simp at *
    omega

end Go.Proofs.Qxb6614081a
