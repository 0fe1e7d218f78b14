import Derived.Test.Qxb6614206aFmtRet
import Derived.Laws.ResultCell
set_option linter.unusedVariables false
set_option linter.unusedSimpArgs false
namespace Go.Proofs.Qxb6614206aFmt
open Go.RowKit

theorem results_cell1 {fn : Func} {p : Tmp} {ty : TypeId} (h : fn.results = #[.cell p ty]) (tmps : Array Value) (P : Program) (w : World) :
    (results fn tmps).run P w = ((asAddr (tmps.getD p undef)).run P w).andThen fun a w₁ => (loadVar ty a).run P w₁ := by
  simp only [results, h]
  simp [Sem.run_bind, Result.andThen]

/-- The policy that holds. -/
def polT (n : Nd) : ByteArray := if n.hp then n.pt else sHalt
def polE (n : Nd) : ByteArray := if n.hp then n.ee else ByteArray.empty

theorem policy (n : Nd) (a r : Option Addr) (w : World) (hP : PolAt w n a) : Calls Tryf.prog 28 #[pnv n a r] w fun e w' => e = .returned (.agg #[.string (polT n), .string (polE n)]) ∧ Below w.heap.size w w' := by
  unfold pnv
  rcases hP with ⟨h1, rfl⟩ | ⟨h1, b, rfl, hb, c0, c1⟩
  · have e1 : polT n = sHalt := by simp [polT, h1]
    have e2 : polE n = ByteArray.empty := by simp [polE, h1]
    rw [e1, e2]
    clear e1 e2 h1
    go_enter Tryf.func28, Tryf.ntmps28
    go_wp2_with fail
    try simp only [Exit.inBlock, Exit.then]
    refine bodyPost_ret (v := .agg #[.string sHalt, .string ByteArray.empty]) ?_ rfl ⟨rfl, ?_⟩
    · rw [results_cell1 rfl]
      go_simp
      rfl
    · repeat' (first | exact Below.refl _ _ | refine Below.drew ?_ | refine Below.alloc ?_ (by simp <;> omega) _ | refine Below.setCell ?_ (by simp <;> omega) _)
  · have e1 : polT n = n.pt := by simp [polT, h1]
    have e2 : polE n = n.ee := by simp [polE, h1]
    rw [e1, e2]
    clear e1 e2 h1
    go_enter Tryf.func28, Tryf.ntmps28
    go_wp2_with fail
    try simp only [Exit.inBlock, Exit.then]
    refine bodyPost_ret (v := .agg #[.string n.pt, .string n.ee]) ?_ rfl ⟨rfl, ?_⟩
    · rw [results_cell1 rfl]
      go_simp
    · repeat' (first | exact Below.refl _ _ | refine Below.drew ?_ | refine Below.alloc ?_ (by simp <;> omega) _ | refine Below.setCell ?_ (by simp <;> omega) _)

theorem zero9 (w : World) : (zeroValue 9).run Tryf.prog w = .ok (.string ByteArray.empty) w := by kernel_rfl
theorem zero40 (w : World) : (zeroValue 40).run Tryf.prog w = .ok (.agg #[.string ByteArray.empty, .string ByteArray.empty, .string ByteArray.empty, .bool false]) w := by kernel_rfl

theorem tlHalt (s : ByteArray) : (s.toList == [104, 97, 108, 116]) = decide (s = sHalt) := by rw [← tl_eq, ByteArray.toList_eq sHalt]
theorem tlIgnore (s : ByteArray) : (s.toList == [105, 103, 110, 111, 114, 101]) = decide (s = sIgnore) := by rw [← tl_eq, ByteArray.toList_eq sIgnore]
theorem tlBranch (s : ByteArray) : (s.toList == [98, 114, 97, 110, 99, 104]) = decide (s = sBranch) := by rw [← tl_eq, ByteArray.toList_eq sBranch]

set_option maxHeartbeats 2000000 in
theorem zzPolicy (n : Nd) (w : World) (E : List Ed) (m c : Nat) (hN : NdOk w n) (hM : VM w m c (fun s => (look E s).map (fun e => .string e.src))) :
    Calls Tryf.prog 16 #[ndv n, .map (some m)] w fun e w' => ∃ b, e = .returned (.bool b) ∧ (b = true ↔ polOK E n) ∧ Below w.heap.size w w' := by
  have HN := hide hN
  have HM := hide hM
  clear hN hM
  have hlk : ∀ o, (Instr.lookup 63 (.map (some m)) (.string n.ee) true).run Tryf.prog (w.alloc o) = .ok (.tuple #[((look E n.ee).map (fun e => Value.string e.src)).getD (.string ByteArray.empty), .bool ((look E n.ee).map (fun e => Value.string e.src)).isSome]) (w.alloc o) := fun o =>
    ((unhide HM).below ((Below.refl _ w).alloc (Nat.le_refl _) o)).lookOk Tryf.underlying63 (zero9 _) n.ee (unhide HN).z3
  unfold ndv
  cases h0 : n.hp with
  | false =>
    have HX : Hid (polOK E n) := hide (.inl h0)
    clear h0
    go_enter Tryf.func16, Tryf.ntmps16
    go_wp2_with fail
    go_ret
    exact ⟨true, rfl, ⟨fun _ => unhide HX, fun _ => rfl⟩, (Below.refl _ w).alloc (Nat.le_refl _) _⟩
  | true =>
    have H0 := hide h0
    clear h0
    have q1 := tlHalt n.pt
    have q2 := tlIgnore n.pt
    have q3 := tlBranch n.pt
    by_cases h1 : n.pt = sHalt
    · have HX : Hid (polOK E n) := hide (.inr (.inl h1))
      rw [decide_eq_true h1] at q1
      clear h1 q2 q3
      go_enter Tryf.func16, Tryf.ntmps16
      go_wp2_with fail
      go_ret
      exact ⟨true, rfl, ⟨fun _ => unhide HX, fun _ => rfl⟩, (Below.refl _ w).alloc (Nat.le_refl _) _⟩
    · rw [decide_eq_false h1] at q1
      have H1 := hide h1
      clear h1
      by_cases h2 : n.pt = sIgnore
      · have HX : Hid (polOK E n) := hide (.inr (.inr (.inl h2)))
        rw [decide_eq_true h2] at q2
        clear h2 q3
        go_enter Tryf.func16, Tryf.ntmps16
        go_wp2_with fail
        go_ret
        exact ⟨true, rfl, ⟨fun _ => unhide HX, fun _ => rfl⟩, (Below.refl _ w).alloc (Nat.le_refl _) _⟩
      · rw [decide_eq_false h2] at q2
        have H2 := hide h2
        clear h2
        by_cases h3 : n.pt = sBranch
        · rw [decide_eq_true h3] at q3
          have HX : Hid (polOK E n ↔ ∃ e, look E n.ee = some e ∧ e.src = n.id) := hide ⟨fun h => by
            rcases h with h | h | h | h
            · rw [unhide H0] at h; cases h
            · exact absurd h (unhide H1)
            · exact absurd h (unhide H2)
            · exact h.2, fun h => .inr (.inr (.inr ⟨h3, h⟩))⟩
          clear h3
          cases hk : look E n.ee with
          | none =>
            rw [hk] at hlk
            have HY := hide hk
            clear hk
            go_enter Tryf.func16, Tryf.ntmps16
            go_wp2_with fail
            go_ret
            refine ⟨false, rfl, ⟨fun h => (Bool.noConfusion h), fun h => ?_⟩, (Below.refl _ w).alloc (Nat.le_refl _) _⟩
            obtain ⟨e, he, _⟩ := (unhide HX).1 h
            rw [unhide HY] at he
            cases he
          | some e =>
            rw [hk] at hlk
            have HY := hide hk
            clear hk
            have q4 := tl_eq e.src n.id
            go_enter Tryf.func16, Tryf.ntmps16
            go_wp2_with fail
            go_ret
            refine ⟨decide (e.src = n.id), rfl, ?_, (Below.refl _ w).alloc (Nat.le_refl _) _⟩
            rw [decide_eq_true_eq, unhide HX, unhide HY]
            exact ⟨fun h => ⟨e, rfl, h⟩, fun ⟨e', h1, h2⟩ => by cases h1; exact h2⟩
        · rw [decide_eq_false h3] at q3
          have HX : Hid (¬ polOK E n) := hide (fun h => by
            rcases h with h | h | h | h
            · rw [unhide H0] at h; cases h
            · exact absurd h (unhide H1)
            · exact absurd h (unhide H2)
            · exact h3 h.1)
          clear h3
          go_enter Tryf.func16, Tryf.ntmps16
          go_wp2_with fail
          go_ret
          exact ⟨false, rfl, ⟨fun h => (Bool.noConfusion h), fun h => absurd h (unhide HX)⟩, (Below.refl _ w).alloc (Nat.le_refl _) _⟩


set_option maxHeartbeats 4000000 in
theorem checkPolicy (F : Go.Stop.Interp) (n : Nd) (a r : Option Addr) (w : World) (E : List Ed) (m c : Nat) (hF : F.answers w.tape) (hN : NdOk w n) (hP : PolAt w n a) (hM : VM w m c (fun s => (look E s).map edv)) :
    Calls Tryf.prog 21 #[pnv n a r, .map (some m)] w fun e w' => Judged (polOK E n) w w' e := by
  have HF := hide hF
  have HN := hide hN
  have HM := hide hM
  have HP := hide hP
  have zE : (polE n).size ≤ maxLen := by
    unfold polE
    split
    · exact hN.z3
    · exact Nat.zero_le _
  have ZE := hide zE
  clear hN hM hP hF zE
  have hlk : ∀ w' o, Below w.heap.size w w' → (Instr.lookup 72 (.map (some m)) (.string (polE n)) true).run Tryf.prog (w'.alloc o) = .ok (.tuple #[((look E (polE n)).map edv).getD (.agg #[.string ByteArray.empty, .string ByteArray.empty, .string ByteArray.empty, .bool false]), .bool ((look E (polE n)).map edv).isSome]) (w'.alloc o) := fun w' o hB =>
    ((unhide HM).below (bthen hB ((Below.refl _ w').alloc (Nat.le_refl _) o))).lookOk Tryf.underlying72 (zero40 _) (polE n) (unhide ZE)
  have HK := hide hlk
  clear hlk
  have hp1 : polOK E n ↔ (polT n = sHalt ∨ polT n = sIgnore ∨ (polT n = sBranch ∧ ∃ e, look E (polE n) = some e ∧ e.src = n.id)) := by
    unfold polOK polT polE
    cases n.hp <;> simp
  have HX := hide hp1
  clear hp1
  have e0 : pnv n a r = .agg #[.string n.id, .string n.ty, .string ByteArray.empty, .map .none, .pointer a, .pointer r, .pointer .none] := rfl
  rw [e0]
  have q1 := tlHalt (polT n)
  have q2 := tlIgnore (polT n)
  have q3 := tlBranch (polT n)
  by_cases h1 : polT n = sHalt
  · rw [decide_eq_true h1] at q1
    have HY : Hid (polOK E n) := hide ((unhide HX).2 (.inl h1))
    clear h1 q2 q3
    go_enter Tryf.func21, Tryf.ntmps21
    go_wp2_with (go_at_call 28; refine (policy n a r _ ((unhide HP).mono ((Below.refl _ w).alloc (Nat.le_refl _) _))).mono ?_; rintro e w1 ⟨rfl, hB1⟩)
    go_ret
    refine ⟨_, rfl, .inl ⟨unhide HY, rfl⟩, ?_⟩
    have b1 := bthen ((Below.refl _ w).alloc (Nat.le_refl _) _) hB1
    exact (b1.alloc b1.size _)
  · rw [decide_eq_false h1] at q1
    have H1 := hide h1
    clear h1
    by_cases h2 : polT n = sIgnore
    · rw [decide_eq_true h2] at q2
      have HY : Hid (polOK E n) := hide ((unhide HX).2 (.inr (.inl h2)))
      clear h2 q3
      go_enter Tryf.func21, Tryf.ntmps21
      go_wp2_with (go_at_call 28; refine (policy n a r _ ((unhide HP).mono ((Below.refl _ w).alloc (Nat.le_refl _) _))).mono ?_; rintro e w1 ⟨rfl, hB1⟩; have hlk1 := fun o => unhide HK w1 o (bthen ((Below.refl _ w).alloc (Nat.le_refl _) _) hB1); have c0 : w1.cell? ⟨w.heap.size, 0, .none⟩ = some (.string n.id) := (hB1.cell (by simp)).trans (by rw [World.cell?_alloc_at (hn := by simp)]; rfl); have hs1 : w.heap.size < w1.heap.size := Nat.lt_of_lt_of_le (by simp) hB1.size)
      go_ret
      refine ⟨_, rfl, .inl ⟨unhide HY, rfl⟩, ?_⟩
      have b1 := bthen ((Below.refl _ w).alloc (Nat.le_refl _) _) hB1
      exact (b1.alloc b1.size _)
    · rw [decide_eq_false h2] at q2
      have H2 := hide h2
      clear h2
      by_cases h3 : polT n = sBranch
      · rw [decide_eq_true h3] at q3
        have HY : Hid (polOK E n ↔ ∃ e, look E (polE n) = some e ∧ e.src = n.id) := hide ⟨fun h => by
          rcases (unhide HX).1 h with h | h | h
          · exact absurd h (unhide H1)
          · exact absurd h (unhide H2)
          · exact h.2, fun h => (unhide HX).2 (.inr (.inr ⟨h3, h⟩))⟩
        clear h3
        cases hk : look E (polE n) with
        | none =>
          rw [hk] at HK
          have HZ : Hid (¬ polOK E n) := hide (fun h => by
            obtain ⟨e, he, _⟩ := (unhide HY).1 h
            rw [hk] at he
            cases he)
          clear hk
          go_enter Tryf.func21, Tryf.ntmps21
          go_wp2_with (first
            | (go_at_call 28; refine (policy n a r _ ((unhide HP).mono ((Below.refl _ w).alloc (Nat.le_refl _) _))).mono ?_; rintro e w1 ⟨rfl, hB1⟩; have hlk1 := fun o => unhide HK w1 o (bthen ((Below.refl _ w).alloc (Nat.le_refl _) _) hB1); have c0 : w1.cell? ⟨w.heap.size, 0, .none⟩ = some (.string n.id) := (hB1.cell (by simp)).trans (by rw [World.cell?_alloc_at (hn := by simp)]; rfl); have hs1 : w.heap.size < w1.heap.size := Nat.lt_of_lt_of_le (by simp) hB1.size)
            | (go_at_call 19; refine (errorf_q1 F _ _ 9 (.inl rfl) _ _ (by have := hB1.tape; show F.answers w1.tape; rw [this]; exact unhide HF) fEE (by rw [World.cell?_alloc_at (hn := by simp)]; rfl)).mono ?_; rintro e w2 ⟨v, rfl, hv, hB2⟩))
          go_ret
          refine ⟨_, rfl, .inr ⟨unhide HZ, hv⟩, ?_⟩
          have b1 := bthen ((Below.refl _ w).alloc (Nat.le_refl _) _) hB1
          exact (((b1.alloc b1.size _).alloc (by simp; omega) _).alloc (by simp; omega) _).trans (hB2.mono (by simp; omega))
        | some e =>
          rw [hk] at HK
          simp only [Option.map_some, Option.getD_some, Option.isSome_some, edv] at HK
          have q4 := tl_eq e.src n.id
          by_cases h4 : e.src = n.id
          · rw [decide_eq_true h4] at q4
            have HZ : Hid (polOK E n) := hide ((unhide HY).2 ⟨e, hk, h4⟩)
            clear hk h4
            go_enter Tryf.func21, Tryf.ntmps21
            go_wp2_with (go_at_call 28; refine (policy n a r _ ((unhide HP).mono ((Below.refl _ w).alloc (Nat.le_refl _) _))).mono ?_; rintro e w1 ⟨rfl, hB1⟩; have hlk1 := fun o => unhide HK w1 o (bthen ((Below.refl _ w).alloc (Nat.le_refl _) _) hB1); have c0 : w1.cell? ⟨w.heap.size, 0, .none⟩ = some (.string n.id) := (hB1.cell (by simp)).trans (by rw [World.cell?_alloc_at (hn := by simp)]; rfl); have hs1 : w.heap.size < w1.heap.size := Nat.lt_of_lt_of_le (by simp) hB1.size)
            go_ret
            refine ⟨_, rfl, .inl ⟨unhide HZ, rfl⟩, ?_⟩
            have b1 := bthen ((Below.refl _ w).alloc (Nat.le_refl _) _) hB1
            exact (b1.alloc b1.size _).alloc (by simp; omega) _
          · rw [decide_eq_false h4] at q4
            have HZ : Hid (¬ polOK E n) := hide (fun h => by
              obtain ⟨e', he, h5⟩ := (unhide HY).1 h
              rw [hk] at he
              cases he
              exact h4 h5)
            clear hk h4
            go_enter Tryf.func21, Tryf.ntmps21
            go_wp2_with (first
              | (go_at_call 28; refine (policy n a r _ ((unhide HP).mono ((Below.refl _ w).alloc (Nat.le_refl _) _))).mono ?_; rintro e w1 ⟨rfl, hB1⟩; have hlk1 := fun o => unhide HK w1 o (bthen ((Below.refl _ w).alloc (Nat.le_refl _) _) hB1); have c0 : w1.cell? ⟨w.heap.size, 0, .none⟩ = some (.string n.id) := (hB1.cell (by simp)).trans (by rw [World.cell?_alloc_at (hn := by simp)]; rfl); have hs1 : w.heap.size < w1.heap.size := Nat.lt_of_lt_of_le (by simp) hB1.size)
              | (go_at_call 19; refine (errorf_q1 F _ _ 9 (.inl rfl) _ _ (by have := hB1.tape; show F.answers w1.tape; rw [this]; exact unhide HF) fEE (by rw [World.cell?_alloc_at (hn := by simp)]; rfl)).mono ?_; rintro e w2 ⟨v, rfl, hv, hB2⟩))
            go_ret
            refine ⟨_, rfl, .inr ⟨unhide HZ, hv⟩, ?_⟩
            have b1 := bthen ((Below.refl _ w).alloc (Nat.le_refl _) _) hB1
            exact (((b1.alloc b1.size _).alloc (by simp; omega) _).alloc (by simp; omega) _).trans (hB2.mono (by simp; omega))
      · rw [decide_eq_false h3] at q3
        have HZ : Hid (¬ polOK E n) := hide (fun h => by
          rcases (unhide HX).1 h with h | h | h
          · exact absurd h (unhide H1)
          · exact absurd h (unhide H2)
          · exact h3 h.1)
        clear h3
        go_enter Tryf.func21, Tryf.ntmps21
        go_wp2_with (first
          | (go_at_call 28; refine (policy n a r _ ((unhide HP).mono ((Below.refl _ w).alloc (Nat.le_refl _) _))).mono ?_; rintro e w1 ⟨rfl, hB1⟩; have hlk1 := fun o => unhide HK w1 o (bthen ((Below.refl _ w).alloc (Nat.le_refl _) _) hB1); have c0 : w1.cell? ⟨w.heap.size, 0, .none⟩ = some (.string n.id) := (hB1.cell (by simp)).trans (by rw [World.cell?_alloc_at (hn := by simp)]; rfl); have hs1 : w.heap.size < w1.heap.size := Nat.lt_of_lt_of_le (by simp) hB1.size)
          | (go_at_call 19; refine (errorf_q1 F _ _ 51 (.inr rfl) _ _ (by have := hB1.tape; show F.answers w1.tape; rw [this]; exact unhide HF) fPol (by rw [World.cell?_alloc_at (hn := by simp)]; rfl)).mono ?_; rintro e w2 ⟨v, rfl, hv, hB2⟩))
        go_ret
        refine ⟨_, rfl, .inr ⟨unhide HZ, hv⟩, ?_⟩
        have b1 := bthen ((Below.refl _ w).alloc (Nat.le_refl _) _) hB1
        exact ((b1.alloc b1.size _).alloc (by simp; omega) _).trans (hB2.mono (by simp; omega))

end Go.Proofs.Qxb6614206aFmt
