import Derived.Test.Qxb6613936aInv
set_option linter.unusedVariables false
set_option linter.unusedSimpArgs false
namespace Go.Proofs.Qxb6613936a
open Go.RowKit

theorem hide {p : Prop} (h : p) : Hid p := h
theorem unhide {p : Prop} (h : Hid p) : p := h

/-- What the walk is told of the slice that came in. -/
def Ops (w : World) (a : Option Addr) (len : Nat) (z : Nat → Int) : Prop :=
  ∀ i : Nat, i < len → ∃ b off, a = some ⟨b, off, .none⟩ ∧ b < w.heap.size ∧ w.cell? ⟨b, off + i, .none⟩ = some (.int .i64 (z i))

theorem walk_long (a : Option Addr) (len cap : Nat) (w : World) (h : 1048576 < len) :
    Calls Try.prog 3 #[.slice a len cap] w fun e w' => e = .returned (.bool true) ∧ Below w.heap.size w w' := by
  go_enter Try.func3, Try.ntmps3
  go_wp2_with (go_at_call 5; refine (bytes1_no _ _ _ _ (by omega)).mono ?_; rintro e w' ⟨rfl, rfl⟩)
  go_ret
  exact ⟨rfl, Below.refl _ _⟩

theorem walk_mid (a : Option Addr) (len cap : Nat) (w : World) (h : len ≤ 1048576) (h2 : 4096 < len) :
    Calls Try.prog 3 #[.slice a len cap] w fun e w' => e = .returned (.bool true) ∧ Below w.heap.size w w' := by
  go_enter Try.func3, Try.ntmps3
  go_wp2_with (go_at_call 5; refine (bytes1 _ _ _ _ (by omega)).mono ?_; rintro e w' ⟨rfl, rfl⟩)
  go_ret
  exact ⟨rfl, Below.refl _ _⟩

/-- The insertion, as the round comes to it. -/
theorem ins_round {w' wr w2 : World} {k i p : Nat} {L : List Nat} {s : St} (hI : Inv w' wr k i L s) (hik : i < k) (hpi : p ≤ i) (hw2 : w2 = wr.alloc (newWaiter ((i : Int) + 1))) :
    Calls Try.prog 8 #[P1 w'.heap.size, pt (w'.heap.size + 3) (atOf L p), P1 (w'.heap.size + 3 + i)] (w2.setCell ⟨w'.heap.size + 1, i, .none⟩ (P1 (w'.heap.size + 3 + i)))
      fun e w3 => e = .returned (.tuple #[]) ∧ Mem w3 w'.heap.size (w'.heap.size + 3) (i + 1) (s.ins (atOf L p) i) ∧
        Off w'.heap.size (w'.heap.size + 3) ((wr.alloc (newWaiter ((i : Int) + 1))).setCell ⟨w'.heap.size + 1, i, .none⟩ (P1 (w'.heap.size + 3 + i))) w3 ∧
        w3.heap.size = ((wr.alloc (newWaiter ((i : Int) + 1))).setCell ⟨w'.heap.size + 1, i, .none⟩ (P1 (w'.heap.size + 3 + i))).heap.size ∧
        w3.rowIs (w'.heap.size + 2) 30 k (shifted L i) := by
  subst hw2
  obtain ⟨m1, m2, m3⟩ := inv_mid hI hik
  refine (ins_mem w'.heap.size (w'.heap.size + 3) (i + 1) s _ (atOf L p) i m1 (by omega) (by omega) hI.atlt (hI.nxlt hpi)).mono ?_
  rintro e w3 ⟨rfl, h1, h2, h3⟩
  exact ⟨rfl, h1, h2, h3, shifted_start hI.len (m3.of_block (h2.block _ (by omega) (by omega)))⟩

set_option maxHeartbeats 2000000 in
theorem walk_main (a : Option Addr) (len cap : Nat) (z : Nat → Int) (w : World) (h : len ≤ 4096) (hops : Ops w a len z) :
    Calls Try.prog 3 #[.slice a len cap] w fun e w' => e = .returned (.bool true) ∧ Below w.heap.size w w' := by
  have hmk1 := run_make_row' (P := Try.prog) 26 28 (.pointer .none) 8 Try.underlying26 Try.info28 rfl .i64 .i64 len (by omega) (by omega)
  have hmk2 := run_make_row' (P := Try.prog) 27 30 (.int .u64 0) 8 Try.underlying27 Try.info30 rfl .i64 .i64 len (by omega) (by omega)
  go_enter Try.func3, Try.ntmps3
  go_wp2_with (go_at_call 5; refine (bytes1 _ _ _ _ (by omega)).mono ?_; rintro e w' ⟨rfl, rfl⟩)
  go_loopg [3] (len + 1) (fun g v3 wr => ∃ k : Nat, g = len + 1 - k ∧ k ≤ len ∧ v3 = .int .i64 k ∧ w' = wr ∧ ∀ j, j < k → 0 ≤ z j ∧ z j ≤ (j : Int))
  case atStart => exact ⟨0, rfl, Nat.zero_le _, rfl, rfl, fun j hj => absurd hj (Nat.not_lt_zero _)⟩
  case round =>
    obtain ⟨k, rfl, hk, rfl, rfl, hz⟩ := hrel
    by_cases hlt : k < len
    · obtain ⟨b, off, rfl, hb, hc⟩ := hops k hlt
      have Hz : Hid (∀ j, j < k → 0 ≤ z j ∧ z j ≤ (j : Int)) := hz
      clear hz hops hmk1 hmk2
      by_cases h1 : z k < 0
      · go_wp2_with fail
        go_ret
        exact ⟨rfl, Below.refl _ _⟩
      · by_cases h2 : (k : Int) < z k
        · go_wp2_with fail
          go_ret
          exact ⟨rfl, Below.refl _ _⟩
        · go_wp2_with fail
          go_roundg (len + 1 - (k + 1))
          case measure => omega
          case rel =>
            refine ⟨k + 1, rfl, by omega, by go_num, rfl, fun j hj => ?_⟩
            by_cases e : j < k
            · exact Hz.out j e
            · obtain rfl : j = k := by omega
              exact ⟨by omega, by omega⟩
    · obtain rfl : k = len := by omega
      have Hz : Hid (∀ j, j < k → 0 ≤ z j ∧ z j ≤ (j : Int)) := hz
      have Ho : Hid (Ops w' a k z) := hops
      clear hz hops
      go_wp2_with (go_at_call 6; refine (newQ _).mono ?_; rintro e w2 ⟨rfl, rfl⟩)
      rw [show w'.heap.size + 1 + 1 = w'.heap.size + 2 from rfl]
      clear hmk1 hmk2
      have hst := inv_start w' k
      go_loopg [8] (k + 1) (fun g v8 wr => ∃ i : Nat, ∃ (L : List Nat) (s : St), g = k + 1 - i ∧ i ≤ k ∧ v8 = .int .i64 i ∧ Inv w' wr k i L s)
      case atStart => exact ⟨0, [], s0, rfl, Nat.zero_le _, rfl, hst⟩
      case round =>
        obtain ⟨i, L, s, rfl, hi, rfl, hI⟩ := hrel
        clear hst
        by_cases hik : i < k
        · obtain ⟨b, off, rfl, hb, hc⟩ := Ho.out i hik
          obtain ⟨p, hp, hpi⟩ : ∃ p : Nat, z i = (p : Int) ∧ p ≤ i := ⟨(z i).toNat, by have := Hz.out i hik; omega, by have := Hz.out i hik; omega⟩
          rw [hp] at hc
          have hsz := hI.size
          have A : Hid (Inv w' wr k i L s) := hI
          clear hI hp
          go_wp2_with fail
          refine (newW _ _).mono ?_
          rintro e w2 ⟨rfl, hw2⟩
          have hI := A.out
          have hci : w2.cell? ⟨b, off + i, .none⟩ = some (.int .i64 (p : Int)) := by
            rw [hw2, World.cell?_alloc_lt _ _ _ (by show b < _; omega)]; exact (hI.bel.cell hb).trans hc
          have hn1 : w2.cell? ⟨w'.heap.size + 1, i, .none⟩ = some (.pointer .none) := by
            rw [hw2, World.cell?_alloc_lt _ _ _ (by show w'.heap.size + 1 < _; omega), hI.nodes.cell hik]; simp
          have hn2 : w2.frozen? ⟨w'.heap.size + 1, i, .none⟩ = false := by
            rw [hw2]; exact (hI.nodes.alloc _).frozen i
          have hb1 : w'.heap.size + 1 ≠ b := by omega
          rw [hsz]
          have hw3 : w2 = wr.alloc (newWaiter ((i : Int) + 1)) := hw2
          have Hw : Hid (w2 = wr.alloc (newWaiter ((i : Int) + 1))) := hw3
          clear Ho hc
          by_cases hp0 : 0 < p
          · obtain ⟨x, hx⟩ := wat_some L (p - 1) (by have := hI.len; omega)
            have hxi := hI.lt _ _ hx
            have hm : w2.cell? ⟨w'.heap.size + 2, p - 1, .none⟩ = some (.int .u64 ((x : Int) + 1)) := by
              rw [hw2, World.cell?_alloc_lt _ _ _ (by show w'.heap.size + 2 < _; omega), hI.model.cell (by omega), mv_at _ _ _ hx]
            have hnx : w2.cell? ⟨w'.heap.size + 1, x, .none⟩ = some (P1 (w'.heap.size + 3 + x)) := by
              rw [hw2, World.cell?_alloc_lt _ _ _ (by show w'.heap.size + 1 < _; omega), hI.nodes.cell (by omega)]; simp [hxi]
            have hne : i ≠ x := by omega
            have hwrap : IntKind.u64.wrap (x : Int) = (x : Int) := by rw [IntKind.wrap_u64]; omega
            have Hx : Hid (wat L (p - 1) = some x) := hx
            have hc8 := ins_round hI hik hpi hw2
            rw [show pt (w'.heap.size + 3) (atOf L p) = P1 (w'.heap.size + 3 + x) from by rw [show atOf L p = some x from by unfold atOf; rw [if_neg (by omega)]; exact hx, pt_some]] at hc8
            clear hI hw2 hw3 hx
            have H8 := hide hc8
            clear hc8
            go_wp2_with fail
            refine (unhide H8).mono ?_
            clear H8 hm hnx hne hwrap
            rintro e w3 ⟨rfl, hM, hO, hS, hR⟩
            have H3 : Hid (Mem w3 w'.heap.size (w'.heap.size + 3) (i + 1) (s.ins (atOf L p) i) ∧ Off w'.heap.size (w'.heap.size + 3) ((wr.alloc (newWaiter ((i : Int) + 1))).setCell ⟨w'.heap.size + 1, i, .none⟩ (P1 (w'.heap.size + 3 + i))) w3 ∧ w3.heap.size = ((wr.alloc (newWaiter ((i : Int) + 1))).setCell ⟨w'.heap.size + 1, i, .none⟩ (P1 (w'.heap.size + 3 + i))).heap.size) := ⟨hM, hO, hS⟩
            have HR : Hid (w3.rowIs (w'.heap.size + 2) 30 k (shifted L i)) := hR
            clear hM hO hS hR hci hn1 hn2 hb1 Hw
            obtain ⟨wq, hwq⟩ : ∃ wq, wq = wr := ⟨_, rfl⟩
            rw [← hwq] at A H3
            clear hsz hwq
            go_wp2_with fail
            go_loopg [12] i (fun g v12 wr => ∃ j : Nat, j ≤ g ∧ p ≤ j ∧ j ≤ i ∧ v12 = .int .i64 j ∧ Only (w'.heap.size + 2) w3 wr ∧ wr.rowIs (w'.heap.size + 2) 30 k (shifted L j))
            case atStart => exact ⟨i, Nat.le_refl _, hpi, Nat.le_refl _, rfl, Only.refl _ _, HR.out⟩
            case round =>
              obtain ⟨j, hjg, hpj, hji, rfl, hOn, hRow⟩ := hrel
              by_cases hj : p < j
              · have c1 : wr.cell? ⟨w'.heap.size + 2, j - 1, .none⟩ = some (.int .u64 (mv L (j - 1))) := by
                  rw [hRow.cell (by omega)]; unfold shifted; rw [if_pos (by omega)]
                have c2 := hRow.cell (i := j) (by omega)
                have c3 := hRow.frozen j
                have hnext : Hid (Only (w'.heap.size + 2) w3 (wr.setCell ⟨w'.heap.size + 2, j, .none⟩ (.int .u64 (mv L (j - 1)))) ∧ (wr.setCell ⟨w'.heap.size + 2, j, .none⟩ (.int .u64 (mv L (j - 1)))).rowIs (w'.heap.size + 2) 30 k (shifted L (j - 1))) := by
                  refine ⟨hOn.setCell _ _, ?_⟩
                  obtain ⟨j', rfl⟩ : ∃ j', j = j' + 1 := ⟨j - 1, by omega⟩
                  exact shifted_step hRow
                clear hOn hRow
                go_wp2_with fail
                go_roundg (j - 1)
                case measure => omega
                case rel => exact ⟨j - 1, Nat.le_refl _, by omega, by omega, by go_num, hnext.out.1, hnext.out.2⟩
              · obtain rfl : j = p := by omega
                have c2 := hRow.cell (i := j) (by omega)
                have c3 := hRow.frozen j
                have hwrap2 : IntKind.u64.wrap (i : Int) = (i : Int) := by rw [IntKind.wrap_u64]; omega
                have hend := inv_end A.out hik hpi H3.out.1 H3.out.2.1 H3.out.2.2 hOn hRow
                have HE := hide hend
                clear hend hOn hRow
                go_wp2_with fail
                go_roundg (k + 1 - (i + 1))
                case measure => omega
                case rel => exact ⟨i + 1, _, _, rfl, by omega, by go_num, unhide HE⟩
          · have hc8 := ins_round hI hik hpi hw2
            rw [show pt (w'.heap.size + 3) (atOf L p) = .pointer .none from by unfold atOf; rw [if_pos (by omega)]; rfl] at hc8
            clear hI hw2 hw3
            have H8 := hide hc8
            clear hc8
            go_wp2_with fail
            refine (unhide H8).mono ?_
            clear H8
            rintro e w3 ⟨rfl, hM, hO, hS, hR⟩
            have H3 : Hid (Mem w3 w'.heap.size (w'.heap.size + 3) (i + 1) (s.ins (atOf L p) i) ∧ Off w'.heap.size (w'.heap.size + 3) ((wr.alloc (newWaiter ((i : Int) + 1))).setCell ⟨w'.heap.size + 1, i, .none⟩ (P1 (w'.heap.size + 3 + i))) w3 ∧ w3.heap.size = ((wr.alloc (newWaiter ((i : Int) + 1))).setCell ⟨w'.heap.size + 1, i, .none⟩ (P1 (w'.heap.size + 3 + i))).heap.size) := ⟨hM, hO, hS⟩
            have HR : Hid (w3.rowIs (w'.heap.size + 2) 30 k (shifted L i)) := hR
            clear hM hO hS hR hci hn1 hn2 hb1 Hw
            obtain ⟨wq, hwq⟩ : ∃ wq, wq = wr := ⟨_, rfl⟩
            rw [← hwq] at A H3
            clear hsz hwq
            go_wp2_with fail
            go_loopg [12] i (fun g v12 wr => ∃ j : Nat, j ≤ g ∧ p ≤ j ∧ j ≤ i ∧ v12 = .int .i64 j ∧ Only (w'.heap.size + 2) w3 wr ∧ wr.rowIs (w'.heap.size + 2) 30 k (shifted L j))
            case atStart => exact ⟨i, Nat.le_refl _, hpi, Nat.le_refl _, rfl, Only.refl _ _, HR.out⟩
            case round =>
              obtain ⟨j, hjg, hpj, hji, rfl, hOn, hRow⟩ := hrel
              by_cases hj : p < j
              · have c1 : wr.cell? ⟨w'.heap.size + 2, j - 1, .none⟩ = some (.int .u64 (mv L (j - 1))) := by
                  rw [hRow.cell (by omega)]; unfold shifted; rw [if_pos (by omega)]
                have c2 := hRow.cell (i := j) (by omega)
                have c3 := hRow.frozen j
                have hnext : Hid (Only (w'.heap.size + 2) w3 (wr.setCell ⟨w'.heap.size + 2, j, .none⟩ (.int .u64 (mv L (j - 1)))) ∧ (wr.setCell ⟨w'.heap.size + 2, j, .none⟩ (.int .u64 (mv L (j - 1)))).rowIs (w'.heap.size + 2) 30 k (shifted L (j - 1))) := by
                  refine ⟨hOn.setCell _ _, ?_⟩
                  obtain ⟨j', rfl⟩ : ∃ j', j = j' + 1 := ⟨j - 1, by omega⟩
                  exact shifted_step hRow
                clear hOn hRow
                go_wp2_with fail
                go_roundg (j - 1)
                case measure => omega
                case rel => exact ⟨j - 1, Nat.le_refl _, by omega, by omega, by go_num, hnext.out.1, hnext.out.2⟩
              · obtain rfl : j = p := by omega
                have c2 := hRow.cell (i := j) (by omega)
                have c3 := hRow.frozen j
                have hwrap2 : IntKind.u64.wrap (i : Int) = (i : Int) := by rw [IntKind.wrap_u64]; omega
                have hend := inv_end A.out hik hpi H3.out.1 H3.out.2.1 H3.out.2.2 hOn hRow
                have HE := hide hend
                clear hend hOn hRow
                go_wp2_with fail
                go_roundg (k + 1 - (i + 1))
                case measure => omega
                case rel => exact ⟨i + 1, _, _, rfl, by omega, by go_num, unhide HE⟩
        · obtain rfl : i = k := by omega
          have A : Hid (Inv w' wr i i L s) := hI
          clear hI
          go_wp2_with fail
          have hI := A.out
          refine (isQ w'.heap.size (w'.heap.size + 3) (w'.heap.size + 1) (w'.heap.size + 2) i L s _ (by omega) hI.len hI.lt hI.rep hI.mem (hI.nodes.congr (fun j hj => by rw [if_pos hj])) hI.model).mono ?_
          rintro e w1 ⟨rfl, m, hw1⟩
          have hb : Below w'.heap.size w' w1 := by
            subst hw1
            exact hI.bel.trans ⟨rfl, rfl, rfl, Nat.le_refl _, fun _ _ => rfl⟩
          clear hI hw1 A
          go_wp2_with fail
          go_ret
          exact ⟨rfl, hb⟩

end Go.Proofs.Qxb6613936a
