import Derived.Test.Qxb6614061aFill
set_option linter.unusedVariables false
set_option linter.unusedSimpArgs false
namespace Go.Proofs.Qxb6614061a
open Go.RowKit

set_option maxHeartbeats 2000000 in
theorem zz_any (a : Option Addr) (n cap kn Bv : Nat) (A : Nat → Option Addr) (L C : Nat → Nat) (S : Nat → Nat → ByteArray) (c : Nat → Bool) (v : Nat → ByteArray) (w : World) (hn : n ≤ 1048576) (hkn : kn ≤ 1048576)
    (hS : Sets w a n A L C S) (hT : Two w Bv kn v c) (hv : ∀ i, i < kn → (v i).size ≤ maxLen) :
    Calls Try.prog 8 #[.slice a n cap, SL Bv kn, SL (Bv + 1) kn] w fun e w' => e = .returned (.bool (matchB n kn c v L S)) ∧ Below w.heap.size w w' := by
  have hmk1 := make41 n hn
  have hmk2 := run_make_row' (P := Try.prog) 49 53 .nilIface 16 Try.underlying49 Try.info53 rfl .i64 .i64 kn (by omega) (by omega)
  have hmm := makeMap42
  have hneq := run_neq_slice_nil_any (P := Try.prog)
  have HS := hide hS
  have HT := hide hT
  have Hv := hide hv
  generalize hr : matchB n kn c v L S = r
  have HR := hide hr
  clear hS hT hv hr
  go_enter Try.func8, Try.ntmps8
  go_wp2_with fail
  go_loopg [8] (n + 1) (fun g v8 wr => ∃ (k : Nat) (V : Nat → Value), g = n + 1 - k ∧ k ≤ n ∧ v8 = .int .i64 k ∧ Fill w wr w.heap.size n k A L S V)
  case atStart => exact ⟨0, _, rfl, Nat.zero_le _, rfl, fill_start w n A L S⟩
  case round =>
    obtain ⟨k, V, rfl, hk, rfl, hF⟩ := hrel
    by_cases h1 : k < n
    · obtain ⟨b, off, rfl, hb, hcell⟩ := (unhide HS).row k h1
      have hLm := (unhide HS).le k h1
      have hstr := hide ((unhide HS).str k h1)
      have hck : wr.cell? ⟨b, off + k, .none⟩ = some (.slice (A k) (L k) (C k)) := (hF.bel.cell hb).trans hcell
      clear hcell
      cases hA : A k with
      | none =>
        have hL0 : L k = 0 := by
          rcases Nat.eq_zero_or_pos (L k) with e | e
          · exact e
          · obtain ⟨_, _, e2, _⟩ := (unhide hstr) 0 e
            rw [hA] at e2; cases e2
        have hF2 := hide (fill_nil hF hA hL0)
        rw [hA] at hck
        clear hF hA hL0 hmk1 hmk2 hmm hLm
        go_wp2_with fail
        go_roundg (n + 1 - (k + 1))
        case measure => omega
        case rel => exact ⟨k + 1, _, rfl, by omega, by go_num, unhide hF2⟩
      | some ad =>
        rw [hA] at hck
        obtain ⟨w1, rfl⟩ : ∃ w1, w1 = wr := ⟨_, rfl⟩
        have hb1 : w.heap.size < w1.heap.size := hF.row.lt
        have HF := hide hF
        have hstr2 : Hid (StrAt w (some ad) (L k) (S k)) := hide (by have := unhide hstr; rwa [hA] at this)
        clear hF hA hmk1 hmk2 hstr
        unfold maxLen at hLm
        go_wp2_with fail
        go_loopg [10] (L k + 1) (fun g v10 wr => ∃ j : Nat, g = L k + 1 - j ∧ j ≤ L k ∧ v10 = .int .i64 j ∧ SelMap wr w1.heap.size (S k) j ∧ Turn w1.heap.size w1 wr)
        case atStart => exact ⟨0, rfl, Nat.zero_le _, rfl, selMap_made _ _, ⟨rfl, rfl, rfl, by simp, fun i hi _ => Below.heap_alloc _ _ _ hi⟩⟩
        case round =>
          obtain ⟨j, rfl, hj, rfl, hM, hTu⟩ := hrel
          have hck2 : wr.cell? ⟨b, off + k, .none⟩ = some (.slice (some ad) (L k) (C k)) :=
            (World.cell?_of_block (w := w1) (hTu.block b (by omega) (by omega))).trans hck
          by_cases h2 : j < L k
          · obtain ⟨b2, off2, hae, hb2, hcell2, hs2⟩ := (unhide hstr2) j h2
            obtain rfl : ad = ⟨b2, off2, .none⟩ := Option.some.inj hae
            have hc2 : wr.cell? ⟨b2, off2 + j, .none⟩ = some (.string (S k j)) :=
              (World.cell?_of_block (w := w1) (hTu.block b2 (by omega) (by omega))).trans (((unhide HF).bel.cell hb2).trans hcell2)
            have hM1 : SelMap wr.drew w1.heap.size (S k) j := hM.of_block rfl
            obtain ⟨w2, hrun, hM2, hg2⟩ := hM1.update (by unfold maxLen; omega) hs2
            have HN := hide (And.intro hM2 (hTu.drew.trans (Turn.of_grown hg2)))
            generalize S k j = st at hc2 hrun hs2
            clear hM hTu hM1 hM2 hg2 hcell2 hae hck hmm
            go_wp2_with fail
            have hki : (k : Int) < (n : Int) := by omega
            have hji : (j : Int) < (L k : Int) := by omega
            go_region
            go_wp2_with fail
            go_roundg (L k + 1 - (j + 1))
            case measure => omega
            case rel => exact ⟨j + 1, rfl, by omega, by go_num, (unhide HN).1, (unhide HN).2⟩
          · obtain rfl : j = L k := by omega
            have hF := unhide HF
            have hrow : wr.rowIs w.heap.size 48 (2 * n) (selCells (fun i => if i < k then V i else .map .none)) := hF.row.of_block (hTu.block _ hb1 (by omega))
            have r1 := hrow.cell (i := k * 2 + 1) (by omega)
            have r2 := hrow.frozen (k * 2 + 1)
            have HN := hide (fill_map hF h1 hTu hM)
            have hki : (k : Int) < (n : Int) := by omega
            clear hF hM hTu hrow hck hmm
            go_wp2_with fail
            go_roundg (n + 1 - (k + 1))
            case measure => omega
            case rel => exact ⟨k + 1, _, rfl, by omega, by go_num, unhide HN⟩
    · obtain rfl : k = n := by omega
      obtain ⟨w1, rfl⟩ : ∃ w1, w1 = wr := ⟨_, rfl⟩
      have HF := hide hF
      have hT0 := unhide HT
      have hv1 : Bv < w.heap.size := hT0.vals.lt
      have hv2 : Bv + 1 < w.heap.size := hT0.caught.lt
      have hsz := hF.bel.size
      clear hF hT0 hmm hmk1
      go_wp2_with fail
      go_loopg [12] (kn + 1) (fun g v12 wr => ∃ j : Nat, g = kn + 1 - j ∧ j ≤ kn ∧ v12 = .int .i64 j ∧ Lay w1 wr w1.heap.size kn j c v)
      case atStart => exact ⟨0, rfl, Nat.zero_le _, rfl, lay_start w1 kn c v⟩
      case round =>
        obtain ⟨j, rfl, hj, rfl, hLay⟩ := hrel
        clear hmk2 hneq
        by_cases h2 : j < kn
        · have hT0 := unhide HT
          have hF := unhide HF
          have c1 : wr.cell? ⟨Bv, j, .none⟩ = some (.string (v j)) := (World.cell?_of_block (w := w1) (hLay.block Bv (by omega))).trans ((hF.bel.cell hv1).trans (hT0.vals.cell h2))
          have c2 : wr.cell? ⟨Bv + 1, j, .none⟩ = some (.bool (c j)) := (World.cell?_of_block (w := w1) (hLay.block (Bv + 1) (by omega))).trans ((hF.bel.cell hv2).trans (hT0.caught.cell h2))
          have r1 := hLay.row.cell h2
          have r2 := hLay.row.frozen j
          have hN := lay_step hLay
          clear hT0 hF hLay
          cases hcj : c j with
          | true =>
            rw [hcj] at c2
            rw [show keyCells c v j = ALL by simp [keyCells, hcj]] at hN
            have HN := hide hN
            clear hN hcj
            go_wp2_with fail
            go_roundg (kn + 1 - (j + 1))
            case measure => omega
            case rel => exact ⟨j + 1, rfl, by omega, by go_num, unhide HN⟩
          | false =>
            rw [hcj] at c2
            rw [show keyCells c v j = LIT (v j) by simp [keyCells, hcj]] at hN
            have HN := hide hN
            clear hN hcj
            go_wp2_with fail
            go_roundg (kn + 1 - (j + 1))
            case measure => omega
            case rel => exact ⟨j + 1, rfl, by omega, by go_num, unhide HN⟩
        · obtain rfl : j = kn := by omega
          go_wp2_with fail
          have hF := (unhide HF).of_block hLay.block hLay.os hLay.tape hLay.output hLay.size
          refine (matches_any w.heap.size w1.heap.size k j A L S V c v _ hn (hF.row.congr (fun i hi => by unfold selCells; split; rfl; exact if_pos (by omega))) (hLay.row.congr (fun i hi => by rw [if_pos hi])) hF.sel (unhide Hv)).mono ?_
          rintro e w3 ⟨rfl, hB3⟩
          have hB : Below w.heap.size w w3 := hF.bel.trans (hB3.mono hF.bel.size)
          rw [HR.out]
          clear hF hLay hB3
          go_wp2_with fail
          go_ret
          exact ⟨rfl, hB⟩

end Go.Proofs.Qxb6614061a
