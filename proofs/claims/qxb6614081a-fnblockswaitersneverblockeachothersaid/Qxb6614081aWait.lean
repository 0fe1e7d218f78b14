import Derived.Test.Qxb6614081aLeaf
import Derived.Deep.RegionWith
set_option linter.unusedVariables false
set_option linter.unusedSimpArgs false
namespace Go.Proofs.Qxb6614081a
open Go.RowKit
open Go.ChangeMaps (setBlock)

abbrev P1 (b : Nat) : Value := .pointer (some ⟨b, 0, .none⟩)

/-- An owner's block. -/
def OwnerAt (w : World) (b : Nat) (x : ByteArray) (a : Int) : Prop :=
  ∃ cs, w.heap[b]? = some (.cells cs 46 (0, 0)) ∧ cs[0]? = some (.string x) ∧ cs[1]? = some (.int .i64 a) ∧ cs[2]? = some (.string ByteArray.empty) ∧ cs.size = 13

theorem check25 (e : Bool) (n : Nat) (u : Option Addr) (w : World) : (Instr.checkKey e (n + 1) 25 (.pointer u)).run Try.prog w = .ok () w := by
  simp [Instr.checkKey, run_underlying Try.underlying25]

theorem find0 (k : Value) (w : World) : (Instr.findKey 25 k []).run Try.prog w = .ok .none w := by
  simp [Instr.findKey, run_underlying Try.underlying25, Instr.findNow]

theorem update1 (w : World) (M : Nat) (u : Option Addr) (v : Value) (h : w.heap[M]? = some (.map #[] 0)) :
    (Instr.mapUpdate 31 (.map (some M)) (.pointer u) v).run Try.prog w = .ok () (setBlock w M (.map #[⟨.pointer u, v, 0⟩] 1)) := by
  have hg : (getObj M).run Try.prog w = .ok (.map #[] 0) w := by simp [getObj, Sem.run, h]
  have hs : ∀ o', (setObj M o').run Try.prog w = .ok () (setBlock w M o') := fun o' => by simp [setObj, Sem.run, h, setBlock]
  have hc := check25 false 9999 u w
  have hf := find0 (.pointer u) w
  simp only [Instr.mapUpdate, Sem.run_bind, run_underlying Try.underlying31, Result.andThen, hg, hc, hf, hs, List.toList_toArray]
  rfl

theorem info46 : ∃ j, Try.prog.info? 46 = some j ∧ j.size ≠ 0 := by
  have h : (Try.prog.info? 46).map (·.size) = some 13 := by kernel_rfl
  obtain ⟨j, hj, hs⟩ := Option.map_eq_some_iff.1 h
  exact ⟨j, hj, by rw [hs]; decide⟩

theorem eqIn_other (w : World) (A B : Nat) (ca cb : Array Value) (ta tb : TypeId) (hne : A ≠ B) (ha : w.heap[A]? = some (.cells ca ta (0, 0))) (hb : w.heap[B]? = some (.cells cb tb (0, 0))) (d : Nat) :
    (Op.equalIn (d + 1) 25 (P1 A) (P1 B)).run Try.prog w = .ok false w := by
  obtain ⟨j, hj, hs⟩ := info46
  have hn : (⟨A, 0, .none⟩ : Addr) ≠ ⟨B, 0, .none⟩ := fun e => hne (congrArg Addr.block e)
  simp [Op.equalIn, run_underlying Try.underlying25, sizeOf, typeInfo, hj, hs, run_sameAddr_other w hn ha hb]

theorem eqIn_same (w : World) (A : Nat) (d : Nat) : (Op.equalIn (d + 1) 25 (P1 A) (P1 A)).run Try.prog w = .ok true w := by
  obtain ⟨j, hj, hs⟩ := info46
  simp [Op.equalIn, run_underlying Try.underlying25, sizeOf, typeInfo, hj, run_sameAddr_same]

theorem neq_same (w : World) (A : Nat) : (binOp .neq 25 (P1 A) (P1 A)).run Try.prog w = .ok (.bool false) w := by
  simp only [binOp]
  simp [Op.equal, Op.maxDepth, eqIn_same w A 9999]

theorem neq_other (w : World) (A B : Nat) (ca cb : Array Value) (ta tb : TypeId) (hne : A ≠ B) (ha : w.heap[A]? = some (.cells ca ta (0, 0))) (hb : w.heap[B]? = some (.cells cb tb (0, 0))) :
    (binOp .neq 25 (P1 A) (P1 B)).run Try.prog w = .ok (.bool true) w := by
  simp only [binOp]
  simp [Op.equal, Op.maxDepth, eqIn_other w A B ca cb ta tb hne ha hb 9999]

theorem find1 (w : World) (A B : Nat) (v : Value) (n : Nat) (ca cb : Array Value) (ta tb : TypeId) (hne : B ≠ A) (ha : w.heap[A]? = some (.cells ca ta (0, 0))) (hb : w.heap[B]? = some (.cells cb tb (0, 0))) :
    (Instr.findKey 25 (P1 B) [⟨P1 A, v, n⟩]).run Try.prog w = .ok .none w := by
  have h := eqIn_other w B A cb ca tb ta hne hb ha 9999
  simp [Instr.findKey, run_underlying Try.underlying25, Instr.findNow, Instr.sameNow, Instr.findAsking, Op.equal, Op.maxDepth, h]

theorem update2 (w : World) (M A B : Nat) (vA v : Value) (ca cb : Array Value) (ta tb : TypeId) (h : w.heap[M]? = some (.map #[⟨P1 A, vA, 0⟩] 1)) (hne : B ≠ A) (ha : w.heap[A]? = some (.cells ca ta (0, 0))) (hb : w.heap[B]? = some (.cells cb tb (0, 0))) :
    (Instr.mapUpdate 31 (.map (some M)) (P1 B) v).run Try.prog w = .ok () (setBlock w M (.map #[⟨P1 A, vA, 0⟩, ⟨P1 B, v, 1⟩] 2)) := by
  have hg : (getObj M).run Try.prog w = .ok (.map #[⟨P1 A, vA, 0⟩] 1) w := by simp [getObj, Sem.run, h]
  have hs : ∀ o', (setObj M o').run Try.prog w = .ok () (setBlock w M o') := fun o' => by simp [setObj, Sem.run, h, setBlock]
  have hc := check25 false 9999 (some ⟨B, 0, .none⟩) w
  have hf := find1 w A B vA 0 ca cb ta tb hne ha hb
  simp only [Instr.mapUpdate, Sem.run_bind, run_underlying Try.underlying31, Result.andThen, hg, hc, hf, hs, List.toList_toArray]
  rfl

set_option maxHeartbeats 1000000 in
/-- 'kl.waiting[ow] = mode': whatever the map's store comes to. -/
theorem wait_any (K M X : Nat) (b : Bool) (w w2 : World) (hc : w.cell? ⟨K, 1, .none⟩ = some (.map (some M)))
    (hrun : (Instr.mapUpdate 31 (.map (some M)) (P1 X) (.string (modeS b))).run Try.prog w.drew = .ok () w2) :
    Calls Try.prog 7 #[P1 K, P1 X, .bool b] w fun e w' => e = .returned (.tuple #[]) ∧ w' = w2 := by
  go_enter Try.func7, Try.ntmps7
  go_wp2_with fail
  go_region_with ((go_at_call 10; refine (mode_any b _).mono ?_; rintro e w' ⟨rfl, rfl⟩))
  all_goals
    go_wp2_with fail
    go_end0
    exact ⟨rfl, rfl⟩

end Go.Proofs.Qxb6614081a
