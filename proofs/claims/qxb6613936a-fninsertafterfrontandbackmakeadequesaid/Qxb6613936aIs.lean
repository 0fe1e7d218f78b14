import Derived.Test.Qxb6613936aPlain
import Derived.Deep.QuietTactic
import Derived.BigQuiet
import Derived.Deep.LoopGhost
import Derived.LaidEqlPtr
set_option linter.unusedVariables false
set_option linter.unusedSimpArgs false
namespace Go.Proofs.Qxb6613936a
open Go.RowKit

/-- The waiter at place k. -/
def wat (L : List Nat) (k : Nat) : Option Nat := L[k]?

theorem wat_some (L : List Nat) (k : Nat) (h : k < L.length) : ∃ x, wat L k = some x := ⟨L[k], List.getElem?_eq_getElem h⟩

theorem pt_some (B x : Nat) : pt B (some x) = P1 (B + x) := rfl

theorem pt_ptr (B : Nat) (o : Option Nat) : ∃ u, pt B o = .pointer u := by cases o <;> exact ⟨_, rfl⟩

theorem eqIn28 (u : Option Addr) (d : Nat) (wx : World) : (Op.equalIn (d + 1) 28 (.pointer u) (.pointer u)).run Try.prog wx = .ok true wx := by
  obtain ⟨j, hj⟩ := Option.isSome_iff_exists.1 (show (Try.prog.info? 42).isSome = true by kernel_rfl)
  cases u with
  | none => simp [Op.equalIn, run_underlying Try.underlying28]
  | some a => simp [Op.equalIn, run_underlying Try.underlying28, sizeOf, typeInfo, hj, run_sameAddr_same]

theorem eql28 (wx : World) (u : Option Addr) : (binOp .eql 28 (.pointer u) (.pointer u)).run Try.prog wx = .ok (.bool true) wx := by
  simp only [binOp]
  simp [Op.equal, Op.maxDepth, eqIn28 u 9999]

theorem neq28 (wx : World) (u : Option Addr) : (binOp .neq 28 (.pointer u) (.pointer u)).run Try.prog wx = .ok (.bool false) wx := by
  simp only [binOp]
  simp [Op.equal, Op.maxDepth, eqIn28 u 9999]

set_option maxHeartbeats 1000000 in
theorem isQ (q B Bn Bm n : Nat) (L : List Nat) (s : St) (w : World) (hn : n ≤ 1048576) (hL : L.length = n) (hlt : ∀ k x, wat L k = some x → x < n) (hR : Rep L s) (hM : Mem w q B n s)
    (hN : w.rowIs Bn 28 n (fun j => P1 (B + j))) (hV : w.rowIs Bm 30 n (fun r => .int .u64 (mv L r))) :
    Calls Try.prog 9 #[P1 q, .slice (some ⟨Bn, 0, .none⟩) n n, .slice (some ⟨Bm, 0, .none⟩) n n] w fun e w' => e = .returned (.bool true) ∧ ∃ m, w' = w.drewN m := by
  go_enter Try.func9, Try.ntmps9
  go_wp2_with fail
  refine (first_of q _ _ hM.q0).mono ?_
  rintro e w' ⟨rfl, rfl⟩
  go_wp2_with fail
  go_loopg [7, 8, 9] (n + 1) (fun g v7 v8 v9 wr => ∃ k nq : Nat, g = n + 1 - k ∧ k ≤ n ∧ v9 = .int .i64 k ∧ v7 = pt B (wat L k) ∧ v8 = pt B (atOf L k) ∧ wr = w'.drewN nq)
  case atStart => exact ⟨0, 0, rfl, Nat.zero_le _, rfl, by rw [hR.first]; rfl, rfl, rfl⟩
  case round =>
    obtain ⟨k, nq, rfl, hk, rfl, rfl, rfl, hwr⟩ := hrel
    obtain ⟨u, hu⟩ := pt_ptr B (atOf L k)
    have hM : Mem wr q B n s := by subst hwr; exact ⟨hM.own, hM.node⟩
    by_cases hkn : k < n
    · obtain ⟨x, hx⟩ := wat_some L k (by omega)
      have hxn := hlt k x hx
      have hcp : wr.cell? ⟨B + x, 3, .none⟩ = some (.pointer u) := by
        rw [hM.cell3 hxn, hR.prev k x hx, ← hu]; rfl
      have hcn : wr.cell? ⟨B + x, 4, .none⟩ = some (pt B (wat L (k + 1))) := by
        rw [hM.cell4 hxn, hR.next k x hx]; rfl
      have hcs := hM.cell1 hxn
      have hv : wr.cell? ⟨Bm, k, .none⟩ = some (.int .u64 ((x : Int) + 1)) := by subst hwr; exact (hV.cell hkn).trans (by rw [mv_at L k x hx])
      have hnd : wr.cell? ⟨Bn, x, .none⟩ = some (P1 (B + x)) := by subst hwr; exact hN.cell hxn
      have hz : atOf L (k + 1) = some x := by unfold atOf; rw [if_neg (by omega)]; exact hx
      have hwrap : IntKind.u64.wrap (x : Int) = (x : Int) := by rw [IntKind.wrap_u64]; omega
      have hxi : (x : Int) < (n : Int) := by omega
      have hki : (k : Int) < (n : Int) := by omega
      have hq1 := neq28
      have A : Hid (atOf L (k + 1) = some x ∧ pt B (atOf L k) = .pointer u ∧ wr = w'.drewN nq) := ⟨hz, hu, hwr⟩
      rw [hu, hx, pt_some]
      clear hu hx hz hM hN hV hR hlt hwr
      go_wp2_with fail
      go_quiet ((go_at_call 14; refine Calls.quiet_of_same (seq_of _ (.int .u64 ((x : Int) + 1)) _ ?_); exact hcs))
      go_wp2_with fail
      refine (prev_of _ (.pointer u) _ ?_).mono ?_
      · exact hcp
      rintro e w1 ⟨rfl, rfl⟩
      go_wp2_with fail
      refine (next_of _ (pt B (wat L (k + 1))) _ ?_).mono ?_
      · exact hcn
      rintro e w1 ⟨rfl, rfl⟩
      go_wp2_with fail
      obtain ⟨hz, hu, hwr⟩ := A.out
      go_roundg (n + 1 - (k + 1))
      case measure => omega
      case rel => exact ⟨k + 1, _, rfl, by omega, by go_num, rfl, by rw [hz, pt_some], by rw [hwr, World.drewN_drewN]⟩
    · have hkk : k = n := by omega
      subst hkk
      have hw0 : wat L k = .none := List.getElem?_eq_none (by omega)
      have hl : wr.cell? ⟨q, 1, .none⟩ = some (.pointer u) := by
        rw [hM.q1, hR.last, ← hu]
        unfold atOf
        split
        · next e => rw [List.getElem?_eq_none (by omega)]
        · rw [hL]
      have hq1 := eql28
      have A : Hid (wr = w'.drewN nq) := hwr
      rw [hu, hw0]
      show Code.wp _ _ _ _ _
      have hp0 : pt B .none = .pointer .none := rfl
      rw [hp0]
      clear hu hw0 hM hN hV hR hlt hwr hL
      go_wp2_with fail
      refine (last_of _ (.pointer u) _ ?_).mono ?_
      · exact hl
      rintro e w1 ⟨rfl, rfl⟩
      go_wp2_with fail
      go_ret
      exact ⟨rfl, nq, A.out⟩

end Go.Proofs.Qxb6613936a
