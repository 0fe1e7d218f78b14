import Derived.Test.Qxb6614206aFmtIds
import Derived.Laws.FloatArith
set_option linter.unusedVariables false
set_option linter.unusedSimpArgs false
namespace Go.Proofs.Qxb6614206aFmt
open Go.RowKit

/-- A node. -/
structure Nd where
  id : ByteArray
  ty : ByteArray
  hp : Bool
  pt : ByteArray
  ee : ByteArray
  hr : Bool
  hm : Bool
  mr : Int
  da : Option Addr
  dl : List Nat
  dc : Nat

/-- Floats in memory. -/
def FL (w : World) (a : Option Addr) (l : List Nat) : Prop :=
  ∀ (j x : Nat), l[j]? = some x → ∃ b off, a = some ⟨b, off, .none⟩ ∧ b < w.heap.size ∧ w.cell? ⟨b, off + j, .none⟩ = some (.float .f64 x)

theorem FL.mono {w w' : World} {a : Option Addr} {l : List Nat} (h : FL w a l) (hB : Below w.heap.size w w') : FL w' a l := by
  intro j x hx
  obtain ⟨b, off, h1, h2, h3⟩ := h j x hx
  exact ⟨b, off, h1, Nat.lt_of_lt_of_le h2 hB.size, (hB.cell h2).trans h3⟩

/-- What is known of a node. -/
structure NdOk (w : World) (n : Nd) : Prop where
  fl : FL w n.da n.dl
  z0 : n.id.size ≤ maxLen
  z1 : n.ty.size ≤ maxLen
  z2 : n.pt.size ≤ maxLen
  z3 : n.ee.size ≤ maxLen
  zl : n.dl.length ≤ maxLen
  nil : n.da = .none → n.dl = []

theorem NdOk.mono {w w' : World} {n : Nd} (h : NdOk w n) (hB : Below w.heap.size w w') : NdOk w' n := ⟨h.fl.mono hB, h.z0, h.z1, h.z2, h.z3, h.zl, h.nil⟩

/-- Nodes in memory. -/
def NL (w : World) (a : Option Addr) (l : List Nd) : Prop :=
  ∀ (i : Nat) (n : Nd), l[i]? = some n → NdOk w n ∧ ∃ b off, a = some ⟨b, off, .none⟩ ∧ b < w.heap.size ∧ w.cell? ⟨b, off + i * 9, .none⟩ = some (.string n.id) ∧ w.cell? ⟨b, off + i * 9 + 1, .none⟩ = some (.string n.ty) ∧
    w.cell? ⟨b, off + i * 9 + 2, .none⟩ = some (.bool n.hp) ∧ w.cell? ⟨b, off + i * 9 + 3, .none⟩ = some (.string n.pt) ∧ w.cell? ⟨b, off + i * 9 + 4, .none⟩ = some (.string n.ee) ∧ w.cell? ⟨b, off + i * 9 + 5, .none⟩ = some (.bool n.hr) ∧
    w.cell? ⟨b, off + i * 9 + 6, .none⟩ = some (.bool n.hm) ∧ w.cell? ⟨b, off + i * 9 + 7, .none⟩ = some (.int .i64 n.mr) ∧ w.cell? ⟨b, off + i * 9 + 8, .none⟩ = some (.slice n.da n.dl.length n.dc)

theorem NL.mono {w w' : World} {a : Option Addr} {l : List Nd} (h : NL w a l) (hB : Below w.heap.size w w') : NL w' a l := by
  intro i n hn
  obtain ⟨h0, b, off, h1, h2, c0, c1, c2, c3, c4, c5, c6, c7, c8⟩ := h i n hn
  exact ⟨h0.mono hB, b, off, h1, Nat.lt_of_lt_of_le h2 hB.size, (hB.cell h2).trans c0, (hB.cell h2).trans c1, (hB.cell h2).trans c2, (hB.cell h2).trans c3, (hB.cell h2).trans c4, (hB.cell h2).trans c5, (hB.cell h2).trans c6, (hB.cell h2).trans c7, (hB.cell h2).trans c8⟩

/-- Edges in memory. -/
def EL (w : World) (a : Option Addr) (l : List Ed) : Prop :=
  ∀ (i : Nat) (e : Ed), l[i]? = some e → ∃ b off, a = some ⟨b, off, .none⟩ ∧ b < w.heap.size ∧ w.cell? ⟨b, off + i * 4, .none⟩ = some (.string e.id) ∧ w.cell? ⟨b, off + i * 4 + 1, .none⟩ = some (.string e.src) ∧
    w.cell? ⟨b, off + i * 4 + 2, .none⟩ = some (.string e.dst) ∧ w.cell? ⟨b, off + i * 4 + 3, .none⟩ = some (.bool e.err)

theorem EL.mono {w w' : World} {a : Option Addr} {l : List Ed} (h : EL w a l) (hB : Below w.heap.size w w') : EL w' a l := by
  intro i e he
  obtain ⟨b, off, h1, h2, h3, h4, h5, h6⟩ := h i e he
  exact ⟨b, off, h1, Nat.lt_of_lt_of_le h2 hB.size, (hB.cell h2).trans h3, (hB.cell h2).trans h4, (hB.cell h2).trans h5, (hB.cell h2).trans h6⟩

/-- The strings' sizes. -/
def Sz (l : List Ed) : Prop := ∀ e ∈ l, e.id.size ≤ maxLen ∧ e.src.size ≤ maxLen ∧ e.dst.size ≤ maxLen

def ndv (n : Nd) : Value := .agg #[.string n.id, .string n.ty, .bool n.hp, .string n.pt, .string n.ee, .bool n.hr, .bool n.hm, .int .i64 n.mr, .slice n.da n.dl.length n.dc]
def edv (e : Ed) : Value := .agg #[.string e.id, .string e.src, .string e.dst, .bool e.err]
def pnv (n : Nd) (a r : Option Addr) : Value := .agg #[.string n.id, .string n.ty, .string ByteArray.empty, .map .none, .pointer a, .pointer r, .pointer .none]

/-- The edge of an id. -/
def look (E : List Ed) (s : ByteArray) : Option Ed := E.find? (fun e => decide (e.id = s))

abbrev sHalt : ByteArray := ⟨#[104, 97, 108, 116]⟩
abbrev sIgnore : ByteArray := ⟨#[105, 103, 110, 111, 114, 101]⟩
abbrev sBranch : ByteArray := ⟨#[98, 114, 97, 110, 99, 104]⟩

def polOK (E : List Ed) (n : Nd) : Prop := n.hp = false ∨ n.pt = sHalt ∨ n.pt = sIgnore ∨ (n.pt = sBranch ∧ ∃ e, look E n.ee = some e ∧ e.src = n.id)

def ord (x y : Nat) : Option Ordering := FloatKind.f64.format.order x y
abbrev day : Nat := 4680673776000565248

/-- A delay that is fine. -/
def fOK (x : Nat) : Prop := ¬ ord x 0 = some .lt ∧ ¬ ord x day = some .gt

theorem ord_cases (x : Nat) : (ord x x = .none ∧ ord x 0 = .none ∧ ord x day = .none) ∨ (ord x x = some .eq ∧ ∃ a b, ord x 0 = some a ∧ ord x day = some b) := by
  have h0 : ∃ s m i, FloatKind.f64.format.read 0 = .number s m i := ⟨false, 0, -1074, by kernel_rfl⟩
  have h1 : ∃ s m i, FloatKind.f64.format.read day = .number s m i := ⟨false, 5937362789990400, -36, by kernel_rfl⟩
  obtain ⟨s0, m0, i0, h0⟩ := h0
  obtain ⟨s1, m1, i1, h1⟩ := h1
  unfold ord Ieee.Format.order
  rw [h0, h1]
  cases FloatKind.f64.format.read x with
  | nan a b => exact .inl ⟨rfl, rfl, rfl⟩
  | infinity s => exact .inr ⟨by simp [Ieee.Datum.order], _, _, rfl, rfl⟩
  | number s m i => exact .inr ⟨by simp [Ieee.Datum.order], _, _, rfl, rfl⟩

def retOK (n : Nd) : Prop := n.hr = false ∨ ((n.hm = true → 0 ≤ n.mr) ∧ ∀ x ∈ n.dl, fOK x)

theorem secs (w : World) : Calls Tryf.prog 29 #[.int .i64 86400000000000] w fun e w' => e = .returned (.float .f64 day) ∧ w' = w := by
  have q1 : ∀ W : World, (binOp .quo 57 (.float .f64 (floatOfInt .f64 0)) (.float .f64 4741671816366391296)).run Tryf.prog W = .ok (.float .f64 0) W := fun W => by kernel_rfl
  have q2 : ∀ W : World, (binOp .add 57 (.float .f64 (floatOfInt .f64 86400)) (.float .f64 0)).run Tryf.prog W = .ok (.float .f64 day) W := fun W => by kernel_rfl
  go_enter Tryf.func29, Tryf.ntmps29
  go_wp2_with fail
  go_ret
  exact ⟨rfl, rfl⟩

theorem ord_fold (x y : Nat) : FloatKind.f64.format.order x y = ord x y := rfl

set_option maxHeartbeats 4000000 in
theorem zzRetry (n : Nd) (w : World) (hN : NdOk w n) : Calls Tryf.prog 17 #[ndv n] w fun e w' => ∃ b, e = .returned (.bool b) ∧ (b = true ↔ retOK n) ∧ Below w.heap.size w w' := by
  have HN := hide hN
  clear hN
  obtain ⟨id, ty, hp, pt, ee, hr, hm, mr, da, dl, dc⟩ := n
  have hl : dl.length ≤ 9223372036854775807 := (unhide HN).zl
  unfold ndv
  simp only
  cases hr with
  | false =>
    go_enter Tryf.func17, Tryf.ntmps17
    go_wp2_with fail
    go_ret
    exact ⟨true, rfl, ⟨fun _ => .inl rfl, fun _ => rfl⟩, (Below.refl _ w).alloc (Nat.le_refl _) _⟩
  | true =>
    by_cases hneg : hm = true ∧ mr < 0
    · obtain ⟨rfl, h1⟩ := hneg
      go_enter Tryf.func17, Tryf.ntmps17
      go_wp2_with fail
      go_ret
      refine ⟨false, rfl, ⟨fun h => (Bool.noConfusion h), fun h => ?_⟩, (Below.refl _ w).alloc (Nat.le_refl _) _⟩
      rcases h with h | h
      · cases h
      · have h2 := h.1 rfl
        simp only at h2
        omega
    · have hpos : hm = true → 0 ≤ mr := fun h => by
        rcases Int.lt_or_le mr 0 with h2 | h2
        · exact absurd ⟨h, h2⟩ hneg
        · exact h2
      have HP := hide hpos
      generalize hn : dl.length = n at hl ⊢
      have HL := hide hn
      clear hn hpos
      rcases (show hm = false ∨ (hm = true ∧ 0 ≤ mr) by cases hm <;> simp at hneg ⊢; exact hneg) with rfl | ⟨rfl, h0⟩
      all_goals
        clear hneg
        go_enter Tryf.func17, Tryf.ntmps17
        go_wp2_with fail
        go_loopg [3] (n + 1) (fun g v3 wr => ∃ k : Nat, g = n + 1 - k ∧ k ≤ n ∧ v3 = .int .i64 k ∧ (∀ x ∈ dl.take k, fOK x) ∧ wr.cell? ⟨w.heap.size, 8, .none⟩ = some (.slice da n dc) ∧ Below w.heap.size w wr)
        case atStart => exact ⟨0, rfl, Nat.zero_le _, rfl, fun x hx => by simp at hx, by rw [World.cell?_alloc_at (hn := by simp)]; rfl, (Below.refl _ w).alloc (Nat.le_refl _) _⟩
        case round =>
          obtain ⟨k, rfl, hk, rfl, hall, hc8, hB⟩ := hrel
          by_cases h1 : k < n
          · obtain ⟨x, hx⟩ : ∃ x, dl[k]? = some x := ⟨dl[k]'(by rw [HL.out]; exact h1), List.getElem?_eq_getElem _⟩
            obtain ⟨b, off, e1, hb, c0⟩ := (unhide HN).fl k x hx
            simp only at e1
            subst e1
            have d0 := (hB.cell (p := ⟨b, off + k, .none⟩) hb).trans c0
            have HA := hide (And.intro hall (And.intro hB hx))
            clear hall hB hx c0
            have hoc := ord_cases x
            rcases hoc with ⟨o1, o2, o3⟩ | ⟨o1, a, c, o2, o3⟩
            · have HF : Hid (fOK x) := hide ⟨by rw [o2]; simp, by rw [o3]; simp⟩
              have p1 : (FloatKind.f64.format.order x x != some .eq) = true := by rw [ord_fold, o1]; rfl
              clear o1 o2 o3
              go_wp2_with fail
              go_roundg (n + 1 - (k + 1))
              case measure => omega
              case rel =>
                refine ⟨k + 1, rfl, by omega, by go_num, fun y hy => ?_, hc8, (unhide HA).2.1⟩
                rw [List.take_add_one, (unhide HA).2.2] at hy
                rcases List.mem_append.1 hy with h | h
                · exact (unhide HA).1 y h
                · simp at h; subst h; exact unhide HF
            · have p1 : (FloatKind.f64.format.order x x != some .eq) = false := by rw [ord_fold, o1]; rfl
              have HO := hide (And.intro o2 o3)
              have p2 : FloatKind.f64.format.order x 0 = some a := o2
              have p3 : FloatKind.f64.format.order x 4680673776000565248 = some c := o3
              clear o1 o2 o3
              cases a <;> cases c
              all_goals
                go_wp2_with fail
                first
                  | (go_roundg (n + 1 - (k + 1))
                     case measure => omega
                     case rel =>
                       refine ⟨k + 1, rfl, by omega, by go_num, fun y hy => ?_, hc8, (unhide HA).2.1⟩
                       rw [List.take_add_one, (unhide HA).2.2] at hy
                       rcases List.mem_append.1 hy with h | h
                       · exact (unhide HA).1 y h
                       · simp at h; subst h; exact ⟨by rw [(unhide HO).1]; simp, by rw [(unhide HO).2]; simp⟩)
                  | (go_ret
                     refine ⟨false, rfl, ⟨fun h => (Bool.noConfusion h), fun h => ?_⟩, (unhide HA).2.1⟩
                     rcases h with h | h
                     · cases h
                     · have hf := h.2 x (List.mem_of_getElem? (unhide HA).2.2)
                       unfold fOK at hf
                       rw [(unhide HO).1, (unhide HO).2] at hf
                       simp at hf)
          · have HA := hide (And.intro hall hB)
            clear hall hB
            go_wp2_with fail
            go_ret
            refine ⟨true, rfl, ⟨fun _ => .inr ⟨fun h => by first | cases h; done | exact (show (0 : Int) ≤ mr from h0), fun x hx => ?_⟩, fun _ => rfl⟩, (unhide HA).2⟩
            refine (unhide HA).1 x ?_
            rw [List.take_of_length_le (by rw [HL.out]; omega)]
            exact hx


/-- The error policy of a node, in memory. -/
def PolAt (w : World) (n : Nd) (a : Option Addr) : Prop :=
  (n.hp = false ∧ a = .none) ∨ (n.hp = true ∧ ∃ b, a = some ⟨b, 0, .none⟩ ∧ b < w.heap.size ∧ w.cell? ⟨b, 0, .none⟩ = some (.string n.pt) ∧ w.cell? ⟨b, 1, .none⟩ = some (.string n.ee))

/-- Its retry policy. -/
def RetAt (w : World) (n : Nd) (r : Option Addr) : Prop :=
  (n.hr = false ∧ r = .none) ∨ (n.hr = true ∧ ∃ b mp da dc, r = some ⟨b, 0, .none⟩ ∧ b < w.heap.size ∧ w.cell? ⟨b, 0, .none⟩ = some (.pointer mp) ∧ w.cell? ⟨b, 1, .none⟩ = some (.slice da n.dl.length dc) ∧ FL w da n.dl ∧
    ((n.hm = false ∧ mp = .none) ∨ (n.hm = true ∧ ∃ b2, mp = some ⟨b2, 0, .none⟩ ∧ b2 < w.heap.size ∧ w.cell? ⟨b2, 0, .none⟩ = some (.int .i64 n.mr))))

theorem PolAt.mono {w w' : World} {n : Nd} {a : Option Addr} (h : PolAt w n a) (hB : Below w.heap.size w w') : PolAt w' n a := by
  rcases h with h | ⟨h1, b, h2, h3, h4, h5⟩
  · exact .inl h
  · exact .inr ⟨h1, b, h2, Nat.lt_of_lt_of_le h3 hB.size, (hB.cell h3).trans h4, (hB.cell h3).trans h5⟩

theorem RetAt.mono {w w' : World} {n : Nd} {r : Option Addr} (h : RetAt w n r) (hB : Below w.heap.size w w') : RetAt w' n r := by
  rcases h with h | ⟨h1, b, mp, da, dc, h2, h3, h4, h5, h6, h7⟩
  · exact .inl h
  · refine .inr ⟨h1, b, mp, da, dc, h2, Nat.lt_of_lt_of_le h3 hB.size, (hB.cell h3).trans h4, (hB.cell h3).trans h5, h6.mono hB, ?_⟩
    rcases h7 with h | ⟨g1, b2, g2, g3, g4⟩
    · exact .inl h
    · exact .inr ⟨g1, b2, g2, Nat.lt_of_lt_of_le g3 hB.size, (hB.cell g3).trans g4⟩

/-- nil where p holds, else an error. -/
def Judged (p : Prop) (w w' : World) (e : Ending) : Prop := ∃ v, e = .returned v ∧ ((p ∧ v = .nilIface) ∨ (¬ p ∧ IsErr w' v)) ∧ Below w.heap.size w w'

theorem IsErr.mono {w w' : World} {v : Value} (h : IsErr w v) (hB : Below w.heap.size w w') : IsErr w' v := by
  obtain ⟨a, s, h1, h2, h3⟩ := h
  exact ⟨a, s, h1, Nat.lt_of_lt_of_le h2 hB.size, (hB.cell h2).trans h3⟩

end Go.Proofs.Qxb6614206aFmt
