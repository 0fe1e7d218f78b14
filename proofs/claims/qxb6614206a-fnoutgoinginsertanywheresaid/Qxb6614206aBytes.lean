import Derived.Test.Qxb6614206aBase
set_option linter.unusedVariables false
set_option linter.unusedSimpArgs false
namespace Go.Proofs.Qxb6614206a
open Go.RowKit

def IsBool (e : Ending) : Prop := ∃ b, e = .returned (.bool b)

/-- The strings' sizes. -/
def Sz (l : List Ed) : Prop := ∀ e ∈ l, e.id.size ≤ maxLen ∧ e.src.size ≤ maxLen ∧ e.dst.size ≤ maxLen

theorem Sz.at {l : List Ed} (h : Sz l) {i : Nat} {e : Ed} (he : l[i]? = some e) : e.id.size ≤ 9223372036854775807 ∧ e.src.size ≤ 9223372036854775807 ∧ e.dst.size ≤ 9223372036854775807 := by
  have := h e (List.mem_of_getElem? he)
  unfold maxLen at this
  exact this

theorem at_some (l : List Ed) (k : Nat) (h : k < l.length) : ∃ e, l[k]? = some e := ⟨l[k], List.getElem?_eq_getElem h⟩

set_option maxHeartbeats 2000000 in
theorem over_any (a : Option Addr) (cap : Nat) (s lim : Int) (l : List Ed) (w : World) (hl : l.length ≤ 1048576) (hE : EL w a l) (hS : Sz l) :
    Calls Try.prog 6 #[.slice a l.length cap, .int .i64 s, .int .i64 lim] w fun e w' => IsBool e ∧ w' = w := by
  have HE := hide hE
  have HS := hide hS
  clear hE hS
  by_cases h0 : lim < s
  · go_enter Try.func6, Try.ntmps6
    go_wp2_with fail
    go_ret
    exact ⟨⟨_, rfl⟩, rfl⟩
  · generalize hn : l.length = n at hl ⊢
    have HN := hide hn
    clear hn
    go_enter Try.func6, Try.ntmps6
    go_wp2_with fail
    go_loopg [7, 8] (n + 1) (fun g v7 v8 wr => ∃ (k : Nat) (z : Int), g = n + 1 - k ∧ k ≤ n ∧ v8 = .int .i64 k ∧ v7 = .int .i64 z ∧ w = wr)
    case atStart => exact ⟨0, s, rfl, Nat.zero_le _, rfl, rfl, rfl⟩
    case round =>
      obtain ⟨k, z, rfl, hk, rfl, rfl, hw⟩ := hrel
      subst hw
      by_cases h1 : k < n
      · obtain ⟨e, he⟩ := at_some l k (by rw [HN.out]; exact h1)
        obtain ⟨b, off, rfl, hb, c0, c1, c2, c3⟩ := (unhide HE) k e he
        obtain ⟨z0, z1, z2⟩ := (unhide HS).at he
        clear he c3
        go_wp2_with fail
        all_goals first
          | (go_ret; exact ⟨⟨_, rfl⟩, rfl⟩)
          | (go_roundg (n + 1 - (k + 1))
             case measure => omega
             case rel => exact ⟨k + 1, _, rfl, by omega, by go_num, rfl, rfl⟩)
      · go_wp2_with fail
        go_ret
        exact ⟨⟨_, rfl⟩, rfl⟩

set_option maxRecDepth 100000 in
set_option maxHeartbeats 4000000 in
theorem bytes5_any (a : Option Addr) (cap : Nat) (k j : Int) (id x1 x2 x3 : ByteArray) (q : Bool) (l : List Ed) (w : World) (hl : l.length ≤ 1048576) (hE : EL w a l) (hS : Sz l)
    (s0 : id.size ≤ maxLen) (s1 : x1.size ≤ maxLen) (s2 : x2.size ≤ maxLen) (s3 : x3.size ≤ maxLen) :
    Calls Try.prog 5 #[.slice a l.length cap, .string id, .int .i64 k, .string x1, .string x2, .string x3, .bool q] w fun e w' => IsBool e ∧ w' = w := by
  have HE := hide hE
  have HS := hide hS
  unfold maxLen at s0 s1 s2 s3
  clear hE hS
  generalize hn : l.length = n at hl ⊢
  have HN := hide hn
  clear hn
  go_enter Try.func5, Try.ntmps5
  go_wp2_with fail
  go_loopg [15, 16] (n + 1) (fun g v15 v16 wr => ∃ (k : Nat) (z : Int), g = n + 1 - k ∧ k ≤ n ∧ v16 = .int .i64 k ∧ v15 = .int .i64 z ∧ w = wr)
  case atStart => exact ⟨0, n, rfl, Nat.zero_le _, rfl, rfl, rfl⟩
  case round =>
    obtain ⟨k, z, rfl, hk, rfl, rfl, hw⟩ := hrel
    subst hw
    by_cases h1 : k < n
    · obtain ⟨e, he⟩ := at_some l k (by rw [HN.out]; exact h1)
      obtain ⟨b, off, rfl, hb, c0, c1, c2, c3⟩ := (unhide HE) k e he
      obtain ⟨z0, z1, z2⟩ := (unhide HS).at he
      clear he c3 s0 s1 s2 s3
      go_wp2_with fail
      all_goals first
        | (go_ret; exact ⟨⟨_, rfl⟩, rfl⟩)
        | (go_roundg (n + 1 - (k + 1))
           case measure => omega
           case rel => exact ⟨k + 1, _, rfl, by omega, by go_num, rfl, rfl⟩)
    · go_wp2_with fail
      all_goals
        go_ret
        exact ⟨⟨_, rfl⟩, rfl⟩

set_option maxRecDepth 100000 in
set_option maxHeartbeats 4000000 in
theorem bytes10_any (a : Option Addr) (cap : Nat) (k j : Int) (id : ByteArray) (l : List Ed) (w : World) (hl : l.length ≤ 1048576) (hE : EL w a l) (hS : Sz l) (s0 : id.size ≤ maxLen) :
    Calls Try.prog 10 #[.slice a l.length cap, .string id, .int .i64 k, .int .i64 j] w fun e w' => IsBool e ∧ w' = w := by
  have HE := hide hE
  have HS := hide hS
  unfold maxLen at s0
  clear hE hS
  generalize hn : l.length = n at hl ⊢
  have HN := hide hn
  clear hn
  go_enter Try.func10, Try.ntmps10
  go_wp2_with fail
  go_loopg [9, 10] (n + 1) (fun g v9 v10 wr => ∃ (k : Nat) (z : Int), g = n + 1 - k ∧ k ≤ n ∧ v10 = .int .i64 k ∧ v9 = .int .i64 z ∧ w = wr)
  case atStart => exact ⟨0, n, rfl, Nat.zero_le _, rfl, rfl, rfl⟩
  case round =>
    obtain ⟨k, z, rfl, hk, rfl, rfl, hw⟩ := hrel
    subst hw
    by_cases h1 : k < n
    · obtain ⟨e, he⟩ := at_some l k (by rw [HN.out]; exact h1)
      obtain ⟨b, off, rfl, hb, c0, c1, c2, c3⟩ := (unhide HE) k e he
      obtain ⟨z0, z1, z2⟩ := (unhide HS).at he
      clear he c3 s0
      go_wp2_with fail
      all_goals first
        | (go_ret; exact ⟨⟨_, rfl⟩, rfl⟩)
        | (go_roundg (n + 1 - (k + 1))
           case measure => omega
           case rel => exact ⟨k + 1, _, rfl, by omega, by go_num, rfl, rfl⟩)
    · go_wp2_with fail
      all_goals
        go_ret
        exact ⟨⟨_, rfl⟩, rfl⟩

theorem bytes5_long (a : Option Addr) (cap n : Nat) (k : Int) (id x1 x2 x3 : ByteArray) (q : Bool) (w : World) (hl : 1048576 < n) :
    Calls Try.prog 5 #[.slice a n cap, .string id, .int .i64 k, .string x1, .string x2, .string x3, .bool q] w fun e w' => IsBool e ∧ w' = w := by
  go_enter Try.func5, Try.ntmps5
  go_wp2_with fail
  go_ret
  exact ⟨⟨_, rfl⟩, rfl⟩

theorem bytes10_long (a : Option Addr) (cap n : Nat) (k j : Int) (id : ByteArray) (w : World) (hl : 1048576 < n) :
    Calls Try.prog 10 #[.slice a n cap, .string id, .int .i64 k, .int .i64 j] w fun e w' => IsBool e ∧ w' = w := by
  go_enter Try.func10, Try.ntmps10
  go_wp2_with fail
  go_ret
  exact ⟨⟨_, rfl⟩, rfl⟩

end Go.Proofs.Qxb6614206a
