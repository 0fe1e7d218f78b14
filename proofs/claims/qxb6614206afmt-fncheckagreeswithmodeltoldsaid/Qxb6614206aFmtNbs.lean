import Derived.Test.Qxb6614206aFmtMow
set_option linter.unusedVariables false
set_option linter.unusedSimpArgs false
namespace Go.Proofs.Qxb6614206aFmt
open Go.RowKit

set_option maxRecDepth 100000 in
set_option maxHeartbeats 4000000 in
theorem nodeBytes2 (a : Option Addr) (cap : Nat) (l : List Nd) (w : World) (hl : l.length ≤ 1048576) (hN : NL w a l) :
    Calls Tryf.prog 6 #[.slice a l.length cap, .int .i64 1048576] w fun e w' => (∃ z : Int, e = .returned (.int .i64 z) ∧ (z ≤ 1048576 → ∀ n ∈ l, n.dl.length ≤ 1048576)) ∧ w' = w := by
  have HE := hide hN
  clear hN
  generalize hn : l.length = n at hl ⊢
  have HN := hide hn
  clear hn
  go_enter Tryf.func6, Tryf.ntmps6
  go_wp2_with fail
  go_loopg [5, 6] (n + 1) (fun g v5 v6 wr => ∃ (k : Nat) (z : Int), g = n + 1 - k ∧ k ≤ n ∧ v6 = .int .i64 k ∧ v5 = .int .i64 z ∧ (∀ n ∈ l.take k, n.dl.length ≤ 1048576) ∧ w = wr)
  case atStart => exact ⟨0, 0, rfl, Nat.zero_le _, rfl, rfl, fun n hn => by simp at hn, rfl⟩
  case round =>
    obtain ⟨k, z, rfl, hk, rfl, rfl, hD, hw⟩ := hrel
    subst hw
    by_cases h1 : k < n
    · obtain ⟨e, he⟩ := at_some l k (by rw [HN.out]; exact h1)
      obtain ⟨ok, b, off, rfl, hb, c0, c1, c2, c3, c4, c5, c6, c7, c8⟩ := (unhide HE) k e he
      have z0 : e.id.size ≤ 9223372036854775807 := ok.z0
      have z1 : e.ty.size ≤ 9223372036854775807 := ok.z1
      have z2 : e.pt.size ≤ 9223372036854775807 := ok.z2
      have z3 : e.ee.size ≤ 9223372036854775807 := ok.z3
      have z4 : e.dl.length ≤ 9223372036854775807 := ok.zl
      generalize hq : e.dl.length = m at z4 c8
      have HD := hide (And.intro hD (And.intro he hq))
      clear he c2 c5 c6 c7 ok hq hD
      go_wp2_with fail
      all_goals first
        | (go_ret; exact ⟨⟨_, rfl, fun h => absurd h (by omega)⟩, rfl⟩)
        | (go_roundg (n + 1 - (k + 1))
           case measure => omega
           case rel =>
             refine ⟨k + 1, _, rfl, by omega, by go_num, rfl, fun x hx => ?_, rfl⟩
             obtain ⟨x1, x2, x3⟩ := unhide HD
             rw [List.take_add_one, x2] at hx
             rcases List.mem_append.1 hx with h9 | h9
             · exact x1 x h9
             · simp at h9
               subst h9
               rw [x3]
               omega)
    · have htn : l.take k = l := List.take_of_length_le (by rw [HN.out]; omega)
      rw [htn] at hD
      have HD := hide hD
      clear hD
      go_wp2_with fail
      go_ret
      exact ⟨⟨_, rfl, fun _ => unhide HD⟩, rfl⟩

set_option maxRecDepth 100000 in
set_option maxHeartbeats 4000000 in
theorem chkDef (F : Go.Stop.Interp) (na ea : Option Addr) (nc ec : Nat) (N : List Nd) (E : List Ed) (w : World) (hF : F.answers w.tape) (hn : N.length ≤ 65536) (hm : E.length ≤ 65536) (hP : PL w na N) (hE : EL w ea E) (hS : Sz E) (hO : ∀ n ∈ N, NdOk w n) :
    Calls Tryf.prog 9 #[.agg #[.slice na N.length nc, .slice ea E.length ec]] w fun e w' => JudgedAny (Valid N E) w w' e := by
  have hB : ∀ o, Below w.heap.size w (w.alloc o) := fun o => (Below.refl _ w).alloc (Nat.le_refl _) o
  have hC := fun o => check F na ea nc ec N E (w.alloc o) hF hn hm (hP.mono (hB o)) (hE.mono (hB o)) hS (fun n h => (hO n h).mono (hB o))
  have HC := hide (And.intro hB hC)
  clear hF hP hE hS hO hB hC hn hm
  go_enter Tryf.func9, Tryf.ntmps9
  go_wp2_with (go_at_call 14; refine ((unhide HC).2 _).mono ?_; rintro e w1 ⟨v, rfl, hv, hB1⟩)
  go_ret
  exact ⟨v, rfl, hv, bthen ((unhide HC).1 _) hB1⟩

end Go.Proofs.Qxb6614206aFmt
