import Derived.Test.Qxb6614206aFmtCards
import Derived.Stop.CallBack
import Derived.Stop.IfaceNil
import Derived.Stop.FmtTextLaws
import Derived.WalkKit
import Derived.WalkSpells
import Derived.Deep.OwnRows
import Derived.Deep.LoopGhost
import Derived.Deep.QuietTactic
import Derived.BigQuiet
set_option linter.unusedVariables false
set_option linter.unusedSimpArgs false
namespace Go.Proofs.Qxb6614206aFmt
open Go.RowKit Go.Extern.Stop Go.Stop Go.Extern

theorem hide {p : Prop} (h : p) : Hid p := h
theorem unhide {p : Prop} (h : Hid p) : p := h

@[go_sem] theorem Tryf.call25 (args : Array Value) (w : World) : (callFunc 25 args).run Tryf.prog w = ((FmtStop.errorf #[9, 78] #[33] args).run Tryf.prog w).andThen fun v w' => .ok (.value v) w' :=
  run_callFunc_extern Tryf.func25 (by kernel_rfl) (by kernel_rfl) (by kernel_rfl) (by kernel_rfl) args w

@[go_sem] theorem Tryf.guard (name : String) (w : World) : (FmtStop.guard name).run Tryf.prog w = .ok () w := by kernel_rfl
@[go_sem] theorem Tryf.ptrE (w : World) : (FmtStop.ptrTo "errors.errorString").run Tryf.prog w = .ok 90 w := by kernel_rfl
@[go_sem] theorem Tryf.elemE (w : World) : (elemOf 90).run Tryf.prog w = .ok 92 w := by kernel_rfl
@[go_sem] theorem Tryf.ptrW (w : World) : (FmtStop.ptrTo "fmt.wrapError").run Tryf.prog w = .ok 80 w := by kernel_rfl
@[go_sem] theorem Tryf.elemW (w : World) : (elemOf 80).run Tryf.prog w = .ok 112 w := by kernel_rfl
@[go_sem] theorem Tryf.isErrorE (w : World) : (FmtDoors.textMethod 90 "Error").run Tryf.prog w = .ok true w := by kernel_rfl


/-- It reads as something. -/
def Reads (w : World) (verb : UInt8) (v : Value) : Prop := ∃ r, (FmtStop.operand "fmt.errorf" true verb false v).run Tryf.prog w = .ok r w

def nm (c : UInt8) (s : String) : List UInt8 := c :: FmtStop.pack s.toUTF8.data.toList

@[go_sem] theorem op9 (s : ByteArray) (w : World) : (FmtStop.operand "fmt.errorf" true 113 false (.iface 9 (.string s))).run Tryf.prog w = .ok (nm 12 "string", FmtStop.pack s.data.toList) w := by kernel_rfl
@[go_sem] theorem op51 (s : ByteArray) (w : World) : (FmtStop.operand "fmt.errorf" true 113 false (.iface 51 (.string s))).run Tryf.prog w = .ok (nm 12 "protocol.ErrorPolicyType", FmtStop.pack s.data.toList) w := by kernel_rfl
@[go_sem] theorem op3 (x : Int) (w : World) : (FmtStop.operand "fmt.errorf" true 100 false (.iface 3 (.int .i64 x))).run Tryf.prog w = .ok (nm 5 "int", Go.Extern.Stop.digits 8 (x % 2 ^ 64).toNat) w := by kernel_rfl
@[go_sem] theorem op57 (x : Nat) (w : World) : (FmtStop.operand "fmt.errorf" true 118 false (.iface 57 (.float .f64 x))).run Tryf.prog w = .ok (nm 11 "float64", Go.Extern.Stop.digits 8 x) w := by kernel_rfl

theorem op90 (a : Addr) (s : ByteArray) (w : World) (hc : w.cell? a = some (.string s)) :
    ∃ r, (FmtStop.operand "fmt.errorf" true 119 false (.iface 90 (.pointer (some a)))).run Tryf.prog w = .ok r w := by
  obtain ⟨st, h1⟩ : ∃ st, (typeStr 90).run Tryf.prog w = .ok st w := ⟨match (typeStr 90).run Tryf.prog w with | .ok x _ => x | _ => "", by kernel_rfl⟩
  have d2 : Tryf.t90.desc = .pointer 92 := rfl
  have d3 : Tryf.t92.desc = .named "errors.errorString" 91 := rfl
  exact ⟨(nm 14 st, s.data.toList), by simp [FmtStop.operand, h1, d2, d3, run_load, hc, nm]⟩

/-- An error that fmt made. -/
def IsErr (w : World) (v : Value) : Prop := ∃ a s, v = .iface 90 (.pointer (some a)) ∧ a.block < w.heap.size ∧ w.cell? a = some (.string s)

/-- It returned such an error. -/
def RetErr (w w' : World) (e : Ending) : Prop := ∃ v, e = .returned v ∧ IsErr w' v ∧ Below w.heap.size w w'

theorem retErr_mk (w : World) (s : ByteArray) : RetErr w ((w.alloc (.cells #[.string s] 92)).drew) (.returned (.iface 90 (.pointer (some ⟨w.heap.size, 0, none⟩)))) := by
  refine ⟨_, rfl, ⟨_, s, rfl, by simp, ?_⟩, ((Below.refl _ w).alloc (Nat.le_refl _) _).drew⟩
  rw [World.cell?_drew, World.cell?_alloc_at (hn := by simp)]; rfl

theorem errorf_q1 (F : Interp) (f s : ByteArray) (t : TypeId) (ht : t = 9 ∨ t = 51) (blk : Nat) (w : World) (hF : F.answers w.tape) (hp : ∀ W, (FmtDoors.printed f 1).run Tryf.prog W = .ok [(0, 113, false)] W)
    (hc0 : w.cell? ⟨blk, 0, none⟩ = some (.iface t (.string s))) :
    Calls Tryf.prog 19 #[.string f, .slice (some ⟨blk, 0, none⟩) 1 1] w fun e w' => RetErr w w' e := by
  have hF' := answers_open hF
  rcases ht with rfl | rfl
  all_goals
    go_enter Tryf.func19, Tryf.ntmps19
    go_wp2
    go_ret
    exact retErr_mk w _

theorem errorf_q2 (F : Interp) (f s0 s1 : ByteArray) (blk : Nat) (w : World) (hF : F.answers w.tape) (hp : ∀ W, (FmtDoors.printed f 2).run Tryf.prog W = .ok [(0, 113, false), (1, 113, false)] W)
    (hc0 : w.cell? ⟨blk, 0, none⟩ = some (.iface 9 (.string s0))) (hc1 : w.cell? ⟨blk, 1, none⟩ = some (.iface 9 (.string s1))) :
    Calls Tryf.prog 19 #[.string f, .slice (some ⟨blk, 0, none⟩) 2 2] w fun e w' => RetErr w w' e := by
  have hF' := answers_open hF
  go_enter Tryf.func19, Tryf.ntmps19
  go_wp2
  go_ret
  exact retErr_mk w _

theorem errorf_q3 (F : Interp) (f s0 s1 s2 : ByteArray) (blk : Nat) (w : World) (hF : F.answers w.tape) (hp : ∀ W, (FmtDoors.printed f 3).run Tryf.prog W = .ok [(0, 113, false), (1, 113, false), (2, 113, false)] W)
    (hc0 : w.cell? ⟨blk, 0, none⟩ = some (.iface 9 (.string s0))) (hc1 : w.cell? ⟨blk, 1, none⟩ = some (.iface 9 (.string s1))) (hc2 : w.cell? ⟨blk, 2, none⟩ = some (.iface 9 (.string s2))) :
    Calls Tryf.prog 19 #[.string f, .slice (some ⟨blk, 0, none⟩) 3 3] w fun e w' => RetErr w w' e := by
  have hF' := answers_open hF
  go_enter Tryf.func19, Tryf.ntmps19
  go_wp2
  go_ret
  exact retErr_mk w _

theorem errorf_d1 (F : Interp) (f : ByteArray) (x : Int) (blk : Nat) (w : World) (hF : F.answers w.tape) (hp : ∀ W, (FmtDoors.printed f 1).run Tryf.prog W = .ok [(0, 100, false)] W)
    (hc0 : w.cell? ⟨blk, 0, none⟩ = some (.iface 3 (.int .i64 x))) :
    Calls Tryf.prog 19 #[.string f, .slice (some ⟨blk, 0, none⟩) 1 1] w fun e w' => RetErr w w' e := by
  have hF' := answers_open hF
  go_enter Tryf.func19, Tryf.ntmps19
  go_wp2
  go_ret
  exact retErr_mk w _

theorem errorf_v2 (F : Interp) (f : ByteArray) (x y : Nat) (blk : Nat) (w : World) (hF : F.answers w.tape) (hp : ∀ W, (FmtDoors.printed f 2).run Tryf.prog W = .ok [(0, 118, false), (1, 118, false)] W)
    (hc0 : w.cell? ⟨blk, 0, none⟩ = some (.iface 57 (.float .f64 x))) (hc1 : w.cell? ⟨blk, 1, none⟩ = some (.iface 57 (.float .f64 y))) :
    Calls Tryf.prog 19 #[.string f, .slice (some ⟨blk, 0, none⟩) 2 2] w fun e w' => RetErr w w' e := by
  have hF' := answers_open hF
  go_enter Tryf.func19, Tryf.ntmps19
  go_wp2
  go_ret
  exact retErr_mk w _

/-- It returned some error. -/
def RetAny (w w' : World) (e : Ending) : Prop := ∃ t a, e = .returned (.iface t (.pointer (some a))) ∧ Below w.heap.size w w'

theorem RetErr.any {w w' : World} {e : Ending} (h : RetErr w w' e) : RetAny w w' e := by
  obtain ⟨v, rfl, ⟨a, s, rfl, _, _⟩, hB⟩ := h
  exact ⟨_, _, rfl, hB⟩

theorem errorf_qw (F : Interp) (f s0 : ByteArray) (v : Value) (blk : Nat) (w : World) (hF : F.answers w.tape) (hp : ∀ W, (FmtDoors.printed f 2).run Tryf.prog W = .ok [(0, 113, false), (1, 119, false)] W)
    (hc0 : w.cell? ⟨blk, 0, none⟩ = some (.iface 9 (.string s0))) (hc1 : w.cell? ⟨blk, 1, none⟩ = some v) (hv : IsErr w v) :
    Calls Tryf.prog 19 #[.string f, .slice (some ⟨blk, 0, none⟩) 2 2] w fun e w' => RetAny w w' e := by
  have hF' := answers_open hF
  obtain ⟨a, s, rfl, _, hc⟩ := hv
  obtain ⟨⟨r1, r2⟩, hop⟩ := op90 a s w hc
  go_enter Tryf.func19, Tryf.ntmps19
  go_wp2
  go_ret
  exact ⟨_, _, rfl, ((Below.refl _ w).alloc (Nat.le_refl _) _).drew⟩

theorem fNode (W : World) : (FmtDoors.printed ⟨#[110, 111, 100, 101, 32, 105, 100, 32, 37, 113, 32, 100, 111, 101, 115, 32, 110, 111, 116, 32, 109, 97, 116, 99, 104, 32, 94, 91, 97, 45, 122, 65, 45, 90, 48, 45, 57, 95, 45, 93, 43, 36]⟩ 1).run Tryf.prog W = .ok [(0, 113, false)] W := by kernel_rfl
theorem fTwice (W : World) : (FmtDoors.printed ⟨#[110, 111, 100, 101, 32, 105, 100, 32, 37, 113, 32, 105, 115, 32, 117, 115, 101, 100, 32, 116, 119, 105, 99, 101]⟩ 1).run Tryf.prog W = .ok [(0, 113, false)] W := by kernel_rfl
theorem fType (W : World) : (FmtDoors.printed ⟨#[110, 111, 100, 101, 32, 37, 113, 32, 104, 97, 115, 32, 110, 111, 32, 116, 121, 112, 101]⟩ 1).run Tryf.prog W = .ok [(0, 113, false)] W := by kernel_rfl
theorem fNoId (W : World) : (FmtDoors.printed ⟨#[97, 110, 32, 101, 100, 103, 101, 32, 102, 114, 111, 109, 32, 37, 113, 32, 116, 111, 32, 37, 113, 32, 104, 97, 115, 32, 110, 111, 32, 105, 100]⟩ 2).run Tryf.prog W = .ok [(0, 113, false), (1, 113, false)] W := by kernel_rfl
theorem fETwice (W : World) : (FmtDoors.printed ⟨#[101, 100, 103, 101, 32, 105, 100, 32, 37, 113, 32, 105, 115, 32, 117, 115, 101, 100, 32, 116, 119, 105, 99, 101]⟩ 1).run Tryf.prog W = .ok [(0, 113, false)] W := by kernel_rfl
theorem fJoins (W : World) : (FmtDoors.printed ⟨#[101, 100, 103, 101, 32, 37, 113, 32, 106, 111, 105, 110, 115, 32, 37, 113, 32, 116, 111, 32, 37, 113, 44, 32, 119, 104, 105, 99, 104, 32, 97, 114, 101, 32, 110, 111, 116, 32, 98, 111, 116, 104, 32, 110, 111, 100, 101, 115]⟩ 3).run Tryf.prog W = .ok [(0, 113, false), (1, 113, false), (2, 113, false)] W := by kernel_rfl
theorem fCycle (W : World) : (FmtDoors.printed ⟨#[101, 100, 103, 101, 32, 37, 113, 32, 102, 114, 111, 109, 32, 37, 113, 32, 98, 97, 99, 107, 32, 116, 111, 32, 37, 113, 32, 99, 108, 111, 115, 101, 115, 32, 97, 32, 99, 121, 99, 108, 101]⟩ 3).run Tryf.prog W = .ok [(0, 113, false), (1, 113, false), (2, 113, false)] W := by kernel_rfl
theorem fWrap (W : World) : (FmtDoors.printed ⟨#[110, 111, 100, 101, 32, 37, 113, 58, 32, 37, 119]⟩ 2).run Tryf.prog W = .ok [(0, 113, false), (1, 119, false)] W := by kernel_rfl
theorem fEE (W : World) : (FmtDoors.printed ⟨#[101, 114, 114, 111, 114, 95, 101, 100, 103, 101, 32, 37, 113, 32, 105, 115, 32, 110, 111, 116, 32, 97, 110, 32, 101, 100, 103, 101, 32, 108, 101, 97, 118, 105, 110, 103, 32, 116, 104, 101, 32, 110, 111, 100, 101]⟩ 1).run Tryf.prog W = .ok [(0, 113, false)] W := by kernel_rfl
theorem fPol (W : World) : (FmtDoors.printed ⟨#[101, 114, 114, 111, 114, 32, 112, 111, 108, 105, 99, 121, 32, 37, 113, 32, 105, 115, 32, 110, 111, 116, 32, 104, 97, 108, 116, 44, 32, 105, 103, 110, 111, 114, 101, 32, 111, 114, 32, 98, 114, 97, 110, 99, 104]⟩ 1).run Tryf.prog W = .ok [(0, 113, false)] W := by kernel_rfl
theorem fMax (W : World) : (FmtDoors.printed ⟨#[109, 97, 120, 95, 114, 101, 116, 114, 105, 101, 115, 32, 37, 100, 32, 105, 115, 32, 108, 101, 115, 115, 32, 116, 104, 97, 110, 32, 48]⟩ 1).run Tryf.prog W = .ok [(0, 100, false)] W := by kernel_rfl
theorem fDel (W : World) : (FmtDoors.printed ⟨#[97, 32, 114, 101, 116, 114, 121, 32, 100, 101, 108, 97, 121, 32, 111, 102, 32, 37, 118, 32, 115, 32, 105, 115, 32, 110, 111, 116, 32, 98, 101, 116, 119, 101, 101, 110, 32, 48, 32, 97, 110, 100, 32, 37, 118, 32, 115]⟩ 2).run Tryf.prog W = .ok [(0, 118, false), (1, 118, false)] W := by kernel_rfl

end Go.Proofs.Qxb6614206aFmt
