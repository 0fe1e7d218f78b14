import Derived.Test.Qxb6614206aFmtNbs
set_option linter.unusedVariables false
set_option linter.unusedSimpArgs false
namespace Go.Proofs.Qxb6614206aFmt
open Go.RowKit

theorem NL.ok {w : World} {a : Option Addr} {l : List Nd} (h : NL w a l) : ∀ n ∈ l, NdOk w n := fun n hn => by
  obtain ⟨i, hi⟩ := List.getElem?_of_mem hn
  exact (h i n hi).1

theorem bytes5 (a ea : Option Addr) (cap ecap : Nat) (l : List Nd) (E : List Ed) (w : World) (hN : NL w a l) (hE : EL w ea E) (hS : Sz E) (hm : E.length ≤ maxLen) :
    Calls Tryf.prog 5 #[.slice a l.length cap, .slice ea E.length ecap] w fun e w' => IsBool e ∧ w' = w := by
  by_cases h : l.length ≤ 1048576
  · exact bytes_any a ea cap ecap l E w h hN hE hS hm
  · exact bytes_long a ea cap ecap _ _ w (by omega)

set_option maxRecDepth 100000 in
set_option maxHeartbeats 4000000 in
theorem main_long (na ea : Option Addr) (nc ec : Nat) (N : List Nd) (E : List Ed) (w : World) (hP : NL w na N) (hE : EL w ea E) (hS : Sz E) (hnl : N.length ≤ maxLen) (hml : E.length ≤ maxLen) (h : ¬ (N.length ≤ 65536 ∧ E.length ≤ 65536)) :
    Calls Tryf.prog 3 #[.slice na N.length nc, .slice ea E.length ec] w fun e w' => e = .returned (.bool true) ∧ Below w.heap.size w w' := by
  have H5 := hide (bytes5 na ea nc ec N E w hP hE hS hml)
  clear hP hE hS
  unfold maxLen at hnl hml
  generalize N.length = n at *
  generalize E.length = m at *
  go_enter Tryf.func3, Tryf.ntmps3
  go_wp2_with (go_at_call 5; refine (unhide H5).mono ?_; rintro e w1 ⟨⟨b5, rfl⟩, rfl⟩; cases b5)
  all_goals (try go_wp2_with fail)
  all_goals (try go_ret)
  all_goals exact ⟨rfl, Below.refl _ _⟩

set_option maxRecDepth 100000 in
set_option maxHeartbeats 8000000 in
theorem main_short (F : Go.Stop.Interp) (na ea : Option Addr) (nc ec : Nat) (N : List Nd) (E : List Ed) (w : World) (hF : F.answers w.tape) (hP : NL w na N) (hE : EL w ea E) (hS : Sz E) (hn : N.length ≤ 65536) (hm : E.length ≤ 65536) :
    Calls Tryf.prog 3 #[.slice na N.length nc, .slice ea E.length ec] w fun e w' => e = .returned (.bool true) ∧ Below w.heap.size w w' := by
  have H5 := hide (bytes5 na ea nc ec N E w hP hE hS (by unfold maxLen; omega))
  have H6 := hide (nodeBytes2 na nc N w (by omega) hP)
  have H7 := hide (fun z => over_any ea ec z 1048576 E w (by omega) hE hS)
  have H8 := hide (toDef na ea nc ec N E w hn hm hP hE)
  have H9 := hide (fun (W : World) (na ea : Option Addr) (nc ec : Nat) (hB : Below w.heap.size w W) (h1 : PL W na N) (h2 : EL W ea E) => chkDef F na ea nc ec N E W (by rw [hB.tape]; exact hF) hn hm h1 h2 hS (fun n h => (hP.ok n h).mono hB))
  have H10 := hide (fun (W : World) (hB : Below w.heap.size w W) => model na ea nc ec N E W hn hm (hP.mono hB) (hE.mono hB) hS)
  clear hF hP hE hS
  generalize N.length = n at *
  generalize E.length = m at *
  go_enter Tryf.func3, Tryf.ntmps3
  go_wp2_with (go_at_call 5; refine (unhide H5).mono ?_; rintro e w1 ⟨⟨b5, rfl⟩, rfl⟩; cases b5)
  · go_wp2_with fail
    go_ret
    exact ⟨rfl, Below.refl _ _⟩
  · go_wp2_with (go_at_call 6; refine (unhide H6).mono ?_; rintro e w1 ⟨⟨z, rfl, hz⟩, rfl⟩; have HZ := hide hz; clear hz; by_cases hz : z ≤ 1048576)
    · have HD := hide (unhide HZ hz)
      clear HZ
      go_wp2_with (go_at_call 7; refine (unhide H7 _).mono ?_; rintro e w1 ⟨⟨b7, rfl⟩, rfl⟩; cases b7)
      · go_wp2_with (first | (go_at_call 8; refine (unhide H8 (unhide HD)).mono ?_; rintro e w2 ⟨B, C, rfl, hPL, hEL, hB2⟩; have HB2 := hide (And.intro hPL (And.intro hEL hB2)); have hws := hB2.size; clear hPL hEL hB2) | (go_at_call 9; refine (unhide H9 _ _ _ _ _ ((unhide HB2).2.2.alloc hws _) ((unhide HB2).1.mono ((Below.refl _ w2).alloc (Nat.le_refl _) _)) ((unhide HB2).2.1.mono ((Below.refl _ w2).alloc (Nat.le_refl _) _))).mono ?_; rintro e w3 ⟨v, rfl, hv, hB3⟩; have HB3 := hide (bthen ((unhide HB2).2.2.alloc hws _) hB3); clear hB3; rcases hv with ⟨hv, rfl⟩ | ⟨hv, t9, a9, rfl⟩))
        · have HV := hide hv
          clear hv
          have hB3 := unhide HB3
          go_region_held3 (fun W => Below w1.heap.size w1 W) (first | assumption | exact Below.drew (unhide HB3) | exact bthen (unhide HB3).drew hB4) ((go_at_call 10; refine (unhide H10 _ (unhide HB3).drew).mono ?_; rintro e w4 ⟨b, rfl, hb, hB4⟩; obtain rfl : b = true := hb.2 (unhide HV); clear hb))
          go_wp2_with fail
          go_ret
          exact ⟨rfl, bthen (unhide HB3).drew hB4⟩
        · have HV := hide hv
          clear hv
          have hB3 := unhide HB3
          go_region_held3 (fun W => Below w1.heap.size w1 W) (first | assumption | exact Below.drew (unhide HB3) | exact bthen (unhide HB3).drew hB4) ((go_at_call 10; refine (unhide H10 _ (unhide HB3).drew).mono ?_; rintro e w4 ⟨b, rfl, hb, hB4⟩; obtain rfl : b = false := Bool.eq_false_iff.2 (fun h9 => unhide HV (hb.1 h9)); clear hb))
          go_wp2_with fail
          go_ret
          exact ⟨rfl, bthen (unhide HB3).drew hB4⟩
      · go_wp2_with fail
        go_ret
        exact ⟨rfl, Below.refl _ _⟩
    · go_wp2_with fail
      go_ret
      exact ⟨rfl, Below.refl _ _⟩

/-- THE LAW: it returns true, and all that was there stands. -/
theorem main (F : Go.Stop.Interp) (na ea : Option Addr) (nc ec : Nat) (N : List Nd) (E : List Ed) (w : World) (hF : F.answers w.tape) (hP : NL w na N) (hE : EL w ea E) (hS : Sz E) (hn : N.length ≤ maxLen) (hm : E.length ≤ maxLen) :
    Calls Tryf.prog 3 #[.slice na N.length nc, .slice ea E.length ec] w fun e w' => e = .returned (.bool true) ∧ Below w.heap.size w w' := by
  by_cases h : N.length ≤ 65536 ∧ E.length ≤ 65536
  · exact main_short F na ea nc ec N E w hF hP hE hS h.1 h.2
  · exact main_long na ea nc ec N E w hP hE hS hn hm h

end Go.Proofs.Qxb6614206aFmt
