import Derived.Test.Qxb6614061aBase
set_option linter.unusedVariables false
set_option linter.unusedSimpArgs false
namespace Go.Proofs.Qxb6614061a
open Go.RowKit

def BytesPost (n kn : Nat) (e : Ending) : Prop := e = .returned (.bool false) ∨ (e = .returned (.bool true) ∧ n ≤ 1048576 ∧ kn ≤ 1048576)

theorem bytes_long (a ka : Option Addr) (n cap kn kcap : Nat) (j : Int) (w : World) (h : 1048576 < n) :
    Calls Try.prog 5 #[.slice a n cap, .slice ka kn kcap, .int .i64 j] w fun e w' => BytesPost n kn e ∧ w' = w := by
  go_enter Try.func5, Try.ntmps5
  go_wp2_with fail
  go_ret
  exact ⟨.inl rfl, rfl⟩

set_option maxHeartbeats 2000000 in
theorem bytes_any (a ka : Option Addr) (n cap kn kcap : Nat) (j : Int) (A : Nat → Option Addr) (L C : Nat → Nat) (S : Nat → Nat → ByteArray) (c : Nat → Bool) (v : Nat → ByteArray) (w : World)
    (hn : n ≤ 1048576) (hkn : kn ≤ maxLen) (hS : Sets w a n A L C S) (hK : Keys w ka kn c v) :
    Calls Try.prog 5 #[.slice a n cap, .slice ka kn kcap, .int .i64 j] w fun e w' => BytesPost n kn e ∧ w' = w := by
  have HS := hide hS
  have HK := hide hK
  unfold maxLen at hkn
  clear hS hK
  go_enter Try.func5, Try.ntmps5
  go_wp2_with fail
  go_loopg [7, 8] (n + 1) (fun g v7 v8 wr => ∃ (k : Nat) (z : Int), g = n + 1 - k ∧ k ≤ n ∧ v8 = .int .i64 k ∧ v7 = .int .i64 z ∧ 0 ≤ z ∧ z ≤ 1048576 ∧ w = wr)
  case atStart => exact ⟨0, n, rfl, Nat.zero_le _, rfl, rfl, by omega, by omega, rfl⟩
  case round =>
    obtain ⟨k, z, rfl, hk, rfl, rfl, hz0, hz1, hw⟩ := hrel
    subst hw
    by_cases h1 : k < n
    · obtain ⟨b, off, rfl, hb, hcell⟩ := HS.out.row k h1
      have hLm := HS.out.le k h1
      unfold maxLen at hLm
      generalize hLk : L k = l at hcell hLm
      generalize hAk : A k = ak at hcell
      generalize hCk : C k = ck at hcell
      have hstr : Hid (StrAt w ak l (S k)) := by rw [← hLk, ← hAk]; exact HS.out.str k h1
      clear hLk hAk hCk
      by_cases h2 : 1048576 < l
      · go_wp2_with fail
        go_ret
        exact ⟨.inl rfl, rfl⟩
      · by_cases h3 : 1048576 < z + l
        · go_wp2_with fail
          go_ret
          exact ⟨.inl rfl, rfl⟩
        · go_wp2_with fail
          go_loopg [7, 9] (l + 1) (fun g v7 v9 wr => ∃ (m : Nat) (z : Int), g = l + 1 - m ∧ m ≤ l ∧ v9 = .int .i64 m ∧ v7 = .int .i64 z ∧ 0 ≤ z ∧ z ≤ 1048576 ∧ w = wr)
          case atStart => exact ⟨0, z + l, rfl, Nat.zero_le _, rfl, rfl, by omega, by omega, rfl⟩
          case round =>
            obtain ⟨m, y, rfl, hm, rfl, rfl, hy0, hy1, hw⟩ := hrel
            subst hw
            by_cases h4 : m < l
            · obtain ⟨b2, off2, rfl, hb2, hcell2, hs2⟩ := hstr.out m h4
              generalize S k m = st at hcell2 hs2
              unfold maxLen at hs2
              by_cases h5 : 1048576 < st.size
              · go_wp2_with fail
                go_ret
                exact ⟨.inl rfl, rfl⟩
              · by_cases h6 : 1048576 < y + st.size
                · go_wp2_with fail
                  go_ret
                  exact ⟨.inl rfl, rfl⟩
                · go_wp2_with fail
                  go_roundg (l + 1 - (m + 1))
                  case measure => omega
                  case rel => exact ⟨m + 1, y + st.size, rfl, by omega, by go_num, rfl, by omega, by omega, rfl⟩
            · go_wp2_with fail
              go_roundg (n + 1 - (k + 1))
              case measure => omega
              case rel => exact ⟨k + 1, y, rfl, by omega, by go_num, rfl, by omega, by omega, rfl⟩
    · by_cases h2 : 1048576 < kn
      · go_wp2_with fail
        go_ret
        exact ⟨.inl rfl, rfl⟩
      · by_cases h3 : 1048576 < z + kn
        · go_wp2_with fail
          go_ret
          exact ⟨.inl rfl, rfl⟩
        · go_wp2_with fail
          go_loopg [7, 10] (kn + 1) (fun g v7 v10 wr => ∃ (m : Nat) (z : Int), g = kn + 1 - m ∧ m ≤ kn ∧ v10 = .int .i64 m ∧ v7 = .int .i64 z ∧ 0 ≤ z ∧ z ≤ 1048576 ∧ w = wr)
          case atStart => exact ⟨0, z + kn, rfl, Nat.zero_le _, rfl, rfl, by omega, by omega, rfl⟩
          case round =>
            obtain ⟨m, y, rfl, hm, rfl, rfl, hy0, hy1, hw⟩ := hrel
            subst hw
            by_cases h4 : m < kn
            · obtain ⟨b2, off2, rfl, hb2, _, hcell2, hs2⟩ := HK.out m h4
              generalize v m = st at hcell2 hs2
              unfold maxLen at hs2
              by_cases h5 : 1048576 < st.size
              · go_wp2_with fail
                go_ret
                exact ⟨.inl rfl, rfl⟩
              · by_cases h6 : 1048576 < y + st.size
                · go_wp2_with fail
                  go_ret
                  exact ⟨.inl rfl, rfl⟩
                · go_wp2_with fail
                  go_roundg (kn + 1 - (m + 1))
                  case measure => omega
                  case rel => exact ⟨m + 1, y + st.size, rfl, by omega, by go_num, rfl, by omega, by omega, rfl⟩
            · go_wp2_with fail
              go_ret
              exact ⟨.inr ⟨rfl, hn, by omega⟩, rfl⟩

end Go.Proofs.Qxb6614061a
