import Derived.Test.Qxb6614206aFmtData
set_option linter.unusedVariables false
set_option linter.unusedSimpArgs false
namespace Go.Proofs.Qxb6614206aFmt
open Go.RowKit

theorem bthen {a b c : World} (h : Below a.heap.size a b) (k : Below b.heap.size b c) : Below a.heap.size a c := h.trans (k.mono h.size)

set_option maxHeartbeats 4000000 in
theorem retry (F : Go.Stop.Interp) (n : Nd) (r : Option Addr) (w : World) (hF : F.answers w.tape) (hz : n.dl.length ≤ maxLen) (hR : RetAt w n r) : Calls Tryf.prog 22 #[.pointer r] w fun e w' => Judged (retOK n) w w' e := by
  have HF := hide hF
  clear hF
  have hl : n.dl.length ≤ 9223372036854775807 := hz
  rcases hR with ⟨h1, rfl⟩ | ⟨h1, b, mp, da, dc, rfl, hb, c0, c1, hfl, hm⟩
  · have HX : Hid (retOK n) := hide (.inl h1)
    clear h1 hz
    go_enter Tryf.func22, Tryf.ntmps22
    go_wp2_with fail
    go_ret
    exact ⟨_, rfl, .inl ⟨unhide HX, rfl⟩, Below.refl _ w⟩
  · have HL := hide hfl
    clear hfl hz
    generalize hn : n.dl.length = m at hl c1
    have HN := hide hn
    clear hn
    by_cases hneg : n.hm = true ∧ n.mr < 0
    · rcases hm with ⟨h2, _⟩ | ⟨h2, b2, rfl, hb2, c2⟩
      · rw [hneg.1] at h2; cases h2
      · have HX : Hid (¬ retOK n) := hide (fun h => by
          rcases h with h | h
          · rw [h1] at h; cases h
          · have h3 := h.1 hneg.1
            have h4 := hneg.2
            omega)
        have h3 := hneg.2
        generalize n.mr = z at c2 h3
        clear h1 h2 hneg
        go_enter Tryf.func22, Tryf.ntmps22
        go_wp2_with (go_at_call 19; refine (errorf_d1 F _ _ _ _ (by exact unhide HF) fMax (by rw [World.cell?_alloc_at (hn := by simp)]; rfl)).mono ?_; rintro e w' ⟨v, rfl, hv, hB⟩)
        go_ret
        exact ⟨_, rfl, .inr ⟨unhide HX, hv⟩, bthen ((Below.refl _ w).alloc (Nat.le_refl _) _) hB⟩
    · have HP : Hid (n.hm = true → 0 ≤ n.mr) := hide (fun h => by
        rcases Int.lt_or_le n.mr 0 with h2 | h2
        · exact absurd ⟨h, h2⟩ hneg
        · exact h2)
      have HR := hide h1
      rcases (show (mp = .none) ∨ (∃ b2, mp = some ⟨b2, 0, .none⟩ ∧ 0 ≤ n.mr ∧ w.cell? ⟨b2, 0, .none⟩ = some (.int .i64 n.mr)) by
        rcases hm with ⟨h2, h3⟩ | ⟨h2, b2, h3, _, h4⟩
        · exact .inl h3
        · exact .inr ⟨b2, h3, unhide HP h2, h4⟩) with rfl | ⟨b2, rfl, h0, c2⟩
      all_goals
        clear hneg hm h1
        go_enter Tryf.func22, Tryf.ntmps22
        go_wp2_with fail
        go_loopg [35] (m + 1) (fun g v35 wr => ∃ k : Nat, g = m + 1 - k ∧ k ≤ m ∧ v35 = .int .i64 k ∧ (∀ x ∈ n.dl.take k, fOK x) ∧ w = wr)
        case atStart => exact ⟨0, rfl, Nat.zero_le _, rfl, fun x hx => by simp at hx, rfl⟩
        case round =>
          obtain ⟨k, rfl, hk, rfl, hall, hw⟩ := hrel
          subst hw
          by_cases h1 : k < m
          · obtain ⟨x, hx⟩ : ∃ x, n.dl[k]? = some x := ⟨n.dl[k]'(by rw [HN.out]; exact h1), List.getElem?_eq_getElem _⟩
            obtain ⟨bb, off, rfl, hbb, d0⟩ := (unhide HL) k x hx
            have HA := hide (And.intro hall hx)
            clear hall hx
            rcases ord_cases x with ⟨o1, o2, o3⟩ | ⟨o1, a, c, o2, o3⟩
            · have HO : Hid (fOK x) := hide ⟨by rw [o2]; simp, by rw [o3]; simp⟩
              have p2 : FloatKind.f64.format.order x 0 = .none := o2
              have p3 : FloatKind.f64.format.order x 4680673776000565248 = .none := o3
              clear o1 o2 o3
              go_wp2_with (go_at_call 29; refine (secs _).mono ?_; rintro e w' ⟨rfl, rfl⟩)
              go_roundg (m + 1 - (k + 1))
              case measure => omega
              case rel =>
                refine ⟨k + 1, rfl, by omega, by go_num, fun y hy => ?_, rfl⟩
                rw [List.take_add_one, (unhide HA).2] at hy
                rcases List.mem_append.1 hy with h | h
                · exact (unhide HA).1 y h
                · simp at h; subst h; exact unhide HO
            · have HO := hide (And.intro o2 o3)
              have p2 : FloatKind.f64.format.order x 0 = some a := o2
              have p3 : FloatKind.f64.format.order x 4680673776000565248 = some c := o3
              clear o1 o2 o3
              cases a <;> cases c
              all_goals
                go_wp2_with (first
                  | (go_at_call 29; refine (secs _).mono ?_; rintro e w' ⟨rfl, rfl⟩)
                  | (go_at_call 19; refine (errorf_v2 F _ _ _ _ _ (by exact unhide HF) fDel (by rw [World.cell?_alloc_at (hn := by simp)]; rfl) (by rw [World.cell?_alloc_at (hn := by simp)]; rfl)).mono ?_; rintro e w' ⟨v, rfl, hv, hB⟩))
                first
                  | (go_roundg (m + 1 - (k + 1))
                     case measure => omega
                     case rel =>
                       refine ⟨k + 1, rfl, by omega, by go_num, fun y hy => ?_, rfl⟩
                       rw [List.take_add_one, (unhide HA).2] at hy
                       rcases List.mem_append.1 hy with h | h
                       · exact (unhide HA).1 y h
                       · simp at h; subst h; exact ⟨by rw [(unhide HO).1]; simp, by rw [(unhide HO).2]; simp⟩)
                  | (go_ret
                     refine ⟨_, rfl, .inr ⟨fun h => ?_, hv⟩, bthen ((Below.refl _ _).alloc (Nat.le_refl _) _) hB⟩
                     rcases h with h | h
                     · rw [unhide HR] at h; cases h
                     · have hf := h.2 x (List.mem_of_getElem? (unhide HA).2)
                       unfold fOK at hf
                       rw [(unhide HO).1, (unhide HO).2] at hf
                       simp at hf)
          · have HA := hide hall
            clear hall
            go_wp2_with fail
            go_ret
            refine ⟨_, rfl, .inl ⟨.inr ⟨unhide HP, fun x hx => ?_⟩, rfl⟩, Below.refl _ _⟩
            refine (unhide HA) x ?_
            rw [List.take_of_length_le (by rw [HN.out]; omega)]
            exact hx

end Go.Proofs.Qxb6614206aFmt
