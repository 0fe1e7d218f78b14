import Derived.Test.Qxb6614206aFmtPol
set_option linter.unusedVariables false
set_option linter.unusedSimpArgs false
namespace Go.Proofs.Qxb6614206aFmt
open Go.RowKit

def IsBool (e : Ending) : Prop := ∃ b, e = .returned (.bool b)
def IsInt (e : Ending) : Prop := ∃ z, e = .returned (.int .i64 z)

theorem Sz.at {l : List Ed} (h : Sz l) {i : Nat} {e : Ed} (he : l[i]? = some e) : e.id.size ≤ 9223372036854775807 ∧ e.src.size ≤ 9223372036854775807 ∧ e.dst.size ≤ 9223372036854775807 := by
  have := h e (List.mem_of_getElem? he)
  unfold maxLen at this
  exact this

theorem at_some {α : Type} (l : List α) (k : Nat) (h : k < l.length) : ∃ e, l[k]? = some e := ⟨l[k], List.getElem?_eq_getElem h⟩

set_option maxHeartbeats 2000000 in
theorem over_any (a : Option Addr) (cap : Nat) (s lim : Int) (l : List Ed) (w : World) (hl : l.length ≤ 1048576) (hE : EL w a l) (hS : Sz l) :
    Calls Tryf.prog 7 #[.slice a l.length cap, .int .i64 s, .int .i64 lim] w fun e w' => IsBool e ∧ w' = w := by
  have HE := hide hE
  have HS := hide hS
  clear hE hS
  by_cases h0 : lim < s
  · go_enter Tryf.func7, Tryf.ntmps7
    go_wp2_with fail
    go_ret
    exact ⟨⟨_, rfl⟩, rfl⟩
  · generalize hn : l.length = n at hl ⊢
    have HN := hide hn
    clear hn
    go_enter Tryf.func7, Tryf.ntmps7
    go_wp2_with fail
    go_loopg [7, 8] (n + 1) (fun g v7 v8 wr => ∃ (k : Nat) (z : Int), g = n + 1 - k ∧ k ≤ n ∧ v8 = .int .i64 k ∧ v7 = .int .i64 z ∧ w = wr)
    case atStart => exact ⟨0, s, rfl, Nat.zero_le _, rfl, rfl, rfl⟩
    case round =>
      obtain ⟨k, z, rfl, hk, rfl, rfl, hw⟩ := hrel
      subst hw
      by_cases h1 : k < n
      · obtain ⟨e, he⟩ := at_some l k (by rw [HN.out]; exact h1)
        obtain ⟨b, off, rfl, hb, c0, c1, c2, c3⟩ := (unhide HE) k e he
        obtain ⟨z0, z1, z2⟩ := (unhide HS).at he
        clear he c3
        go_wp2_with fail
        all_goals first
          | (go_ret; exact ⟨⟨_, rfl⟩, rfl⟩)
          | (go_roundg (n + 1 - (k + 1))
             case measure => omega
             case rel => exact ⟨k + 1, _, rfl, by omega, by go_num, rfl, rfl⟩)
      · go_wp2_with fail
        go_ret
        exact ⟨⟨_, rfl⟩, rfl⟩

set_option maxRecDepth 100000 in
set_option maxHeartbeats 4000000 in
theorem nodeBytes (a : Option Addr) (cap : Nat) (l : List Nd) (w : World) (hl : l.length ≤ 1048576) (hN : NL w a l) :
    Calls Tryf.prog 6 #[.slice a l.length cap, .int .i64 1048576] w fun e w' => IsInt e ∧ w' = w := by
  have HE := hide hN
  clear hN
  generalize hn : l.length = n at hl ⊢
  have HN := hide hn
  clear hn
  go_enter Tryf.func6, Tryf.ntmps6
  go_wp2_with fail
  go_loopg [5, 6] (n + 1) (fun g v5 v6 wr => ∃ (k : Nat) (z : Int), g = n + 1 - k ∧ k ≤ n ∧ v6 = .int .i64 k ∧ v5 = .int .i64 z ∧ w = wr)
  case atStart => exact ⟨0, 0, rfl, Nat.zero_le _, rfl, rfl, rfl⟩
  case round =>
    obtain ⟨k, z, rfl, hk, rfl, rfl, hw⟩ := hrel
    subst hw
    by_cases h1 : k < n
    · obtain ⟨e, he⟩ := at_some l k (by rw [HN.out]; exact h1)
      obtain ⟨ok, b, off, rfl, hb, c0, c1, c2, c3, c4, c5, c6, c7, c8⟩ := (unhide HE) k e he
      have z0 : e.id.size ≤ 9223372036854775807 := ok.z0
      have z1 : e.ty.size ≤ 9223372036854775807 := ok.z1
      have z2 : e.pt.size ≤ 9223372036854775807 := ok.z2
      have z3 : e.ee.size ≤ 9223372036854775807 := ok.z3
      have z4 : e.dl.length ≤ 9223372036854775807 := ok.zl
      clear he c2 c5 c6 c7 ok
      generalize e.dl.length = m at z4 c8
      go_wp2_with fail
      all_goals first
        | (go_ret; exact ⟨⟨_, rfl⟩, rfl⟩)
        | (go_roundg (n + 1 - (k + 1))
           case measure => omega
           case rel => exact ⟨k + 1, _, rfl, by omega, by go_num, rfl, rfl⟩)
    · go_wp2_with fail
      go_ret
      exact ⟨⟨_, rfl⟩, rfl⟩


set_option maxRecDepth 100000 in
theorem bytes_long (a ea : Option Addr) (cap ecap n m : Nat) (w : World) (hl : 1048576 < n) : Calls Tryf.prog 5 #[.slice a n cap, .slice ea m ecap] w fun e w' => IsBool e ∧ w' = w := by
  go_enter Tryf.func5, Tryf.ntmps5
  go_wp2_with fail
  go_ret
  exact ⟨⟨_, rfl⟩, rfl⟩

set_option maxRecDepth 100000 in
set_option maxHeartbeats 8000000 in
theorem bytes_any (a ea : Option Addr) (cap ecap : Nat) (l : List Nd) (E : List Ed) (w : World) (hl : l.length ≤ 1048576) (hN : NL w a l) (hE : EL w ea E) (hS : Sz E) (hm : E.length ≤ maxLen) :
    Calls Tryf.prog 5 #[.slice a l.length cap, .slice ea E.length ecap] w fun e w' => IsBool e ∧ w' = w := by
  have HE := hide hN
  have HD := hide hE
  have HS := hide hS
  unfold maxLen at hm
  clear hN hE hS
  generalize hn : l.length = n at hl ⊢
  have HN := hide hn
  clear hn
  generalize hn : E.length = m at hm ⊢
  have HM := hide hn
  clear hn
  go_enter Tryf.func5, Tryf.ntmps5
  go_wp2_with fail
  go_loopg [5, 6] (n + 1) (fun g v5 v6 wr => ∃ (k : Nat) (z : Int), g = n + 1 - k ∧ k ≤ n ∧ v6 = .int .i64 k ∧ v5 = .int .i64 z ∧ w = wr)
  case atStart => exact ⟨0, n, rfl, Nat.zero_le _, rfl, rfl, rfl⟩
  case round =>
    obtain ⟨k, z, rfl, hk, rfl, rfl, hw⟩ := hrel
    subst hw
    by_cases h1 : k < n
    · obtain ⟨e, he⟩ := at_some l k (by rw [HN.out]; exact h1)
      obtain ⟨ok, b, off, rfl, hb, c0, c1, c2, c3, c4, c5, c6, c7, c8⟩ := (unhide HE) k e he
      have z0 : e.id.size ≤ 9223372036854775807 := ok.z0
      have z1 : e.ty.size ≤ 9223372036854775807 := ok.z1
      have z2 : e.pt.size ≤ 9223372036854775807 := ok.z2
      have z3 : e.ee.size ≤ 9223372036854775807 := ok.z3
      have z4 : e.dl.length ≤ 9223372036854775807 := ok.zl
      clear he c2 c5 c6 c7 ok
      generalize e.dl.length = q at z4 c8
      go_wp2_with fail
      all_goals first
        | (go_ret; exact ⟨⟨_, rfl⟩, rfl⟩)
        | (go_roundg (n + 1 - (k + 1))
           case measure => omega
           case rel => exact ⟨k + 1, _, rfl, by omega, by go_num, rfl, rfl⟩)
    · by_cases h2 : m ≤ 1048576
      · go_wp2_with fail
        all_goals first
          | (go_ret; exact ⟨⟨_, rfl⟩, rfl⟩)
          | (go_loopg [5, 7] (m + 1) (fun g v5 v7 wr => ∃ (k : Nat) (z : Int), g = m + 1 - k ∧ k ≤ m ∧ v7 = .int .i64 k ∧ v5 = .int .i64 z ∧ w = wr)
             case atStart => exact ⟨0, _, rfl, Nat.zero_le _, rfl, rfl, rfl⟩
             case round =>
               obtain ⟨j, y, rfl, hj, rfl, rfl, hw⟩ := hrel
               subst hw
               by_cases h3 : j < m
               · obtain ⟨e, he⟩ := at_some E j (by rw [HM.out]; exact h3)
                 obtain ⟨b, off, rfl, hb, c0, c1, c2, c3⟩ := (unhide HD) j e he
                 obtain ⟨z0, z1, z2⟩ := (unhide HS).at he
                 clear he c3
                 go_wp2_with fail
                 all_goals first
                   | (go_ret; exact ⟨⟨_, rfl⟩, rfl⟩)
                   | (go_roundg (m + 1 - (j + 1))
                      case measure => omega
                      case rel => exact ⟨j + 1, _, rfl, by omega, by go_num, rfl, rfl⟩)
               · go_wp2_with fail
                 go_ret
                 exact ⟨⟨_, rfl⟩, rfl⟩)
      · go_wp2_with fail
        go_ret
        exact ⟨⟨_, rfl⟩, rfl⟩

end Go.Proofs.Qxb6614206aFmt
