import Derived.Test.Qxb6614206aFmtTo
import Derived.Lib.ItoaWalk
import Derived.Deep.CutRange
set_option linter.unusedVariables false
set_option linter.unusedSimpArgs false
namespace Go.Proofs.Qxb6614206aFmt
open Go.RowKit

/-- A retry policy that lies above lo. -/
def FG (w : World) (lo : Nat) (a : Option Addr) (l : List Nat) : Prop :=
  ∀ (j x : Nat), l[j]? = some x → ∃ b, a = some ⟨b, 0, .none⟩ ∧ lo ≤ b ∧ b < w.heap.size ∧ w.cell? ⟨b, j, .none⟩ = some (.float .f64 x)

def PolG (w : World) (lo : Nat) (n : Nd) (a : Option Addr) : Prop :=
  (n.hp = false ∧ a = .none) ∨ (n.hp = true ∧ ∃ b, a = some ⟨b, 0, .none⟩ ∧ lo ≤ b ∧ b < w.heap.size ∧ w.cell? ⟨b, 0, .none⟩ = some (.string n.pt) ∧ w.cell? ⟨b, 1, .none⟩ = some (.string n.ee))

def RetG (w : World) (lo : Nat) (n : Nd) (r : Option Addr) : Prop :=
  (n.hr = false ∧ r = .none) ∨ (n.hr = true ∧ ∃ b mp da dc, r = some ⟨b, 0, .none⟩ ∧ lo ≤ b ∧ b < w.heap.size ∧ w.cell? ⟨b, 0, .none⟩ = some (.pointer mp) ∧ w.cell? ⟨b, 1, .none⟩ = some (.slice da n.dl.length dc) ∧ FG w lo da n.dl ∧
    ((n.hm = false ∧ mp = .none) ∨ (n.hm = true ∧ ∃ b2, mp = some ⟨b2, 0, .none⟩ ∧ lo ≤ b2 ∧ b2 < w.heap.size ∧ w.cell? ⟨b2, 0, .none⟩ = some (.int .i64 n.mr))))

/-- What lies from lo on stands. -/
structure Above (lo : Nat) (w w' : World) : Prop where
  size : w.heap.size ≤ w'.heap.size
  block : ∀ j, lo ≤ j → j < w.heap.size → w'.heap[j]? = w.heap[j]?

theorem Above.cell {lo : Nat} {w w' : World} (h : Above lo w w') {p : Addr} (h1 : lo ≤ p.block) (h2 : p.block < w.heap.size) : w'.cell? p = w.cell? p := World.cell?_of_block (w := w) (h.block _ h1 h2)

theorem FG.keep {lo : Nat} {w w' : World} {a : Option Addr} {l : List Nat} (h : FG w lo a l) (k : Above lo w w') : FG w' lo a l := by
  intro j x hx
  obtain ⟨b, h1, h2, h3, h4⟩ := h j x hx
  exact ⟨b, h1, h2, Nat.lt_of_lt_of_le h3 k.size, (k.cell h2 h3).trans h4⟩

theorem PolG.keep {lo : Nat} {w w' : World} {n : Nd} {a : Option Addr} (h : PolG w lo n a) (k : Above lo w w') : PolG w' lo n a := by
  rcases h with h | ⟨h1, b, h2, h0, h3, h4, h5⟩
  · exact .inl h
  · exact .inr ⟨h1, b, h2, h0, Nat.lt_of_lt_of_le h3 k.size, (k.cell h0 h3).trans h4, (k.cell h0 h3).trans h5⟩

theorem RetG.keep {lo : Nat} {w w' : World} {n : Nd} {r : Option Addr} (h : RetG w lo n r) (k : Above lo w w') : RetG w' lo n r := by
  rcases h with h | ⟨h1, b, mp, da, dc, h2, h0, h3, h4, h5, h6, h7⟩
  · exact .inl h
  · refine .inr ⟨h1, b, mp, da, dc, h2, h0, Nat.lt_of_lt_of_le h3 k.size, (k.cell h0 h3).trans h4, (k.cell h0 h3).trans h5, h6.keep k, ?_⟩
    rcases h7 with h | ⟨g1, b2, g2, g0, g3, g4⟩
    · exact .inl h
    · exact .inr ⟨g1, b2, g2, g0, Nat.lt_of_lt_of_le g3 k.size, (k.cell g0 g3).trans g4⟩

theorem PolG.at {lo : Nat} {w : World} {n : Nd} {a : Option Addr} (h : PolG w lo n a) : PolAt w n a := by
  rcases h with h | ⟨h1, b, h2, h0, h3, h4, h5⟩
  · exact .inl h
  · exact .inr ⟨h1, b, h2, h3, h4, h5⟩

theorem RetG.at {lo : Nat} {w : World} {n : Nd} {r : Option Addr} (h : RetG w lo n r) : RetAt w n r := by
  rcases h with h | ⟨h1, b, mp, da, dc, h2, h0, h3, h4, h5, h6, h7⟩
  · exact .inl h
  · refine .inr ⟨h1, b, mp, da, dc, h2, h3, h4, h5, fun j x hx => ?_, ?_⟩
    · obtain ⟨b', g1, g2, g3, g4⟩ := h6 j x hx
      exact ⟨b', 0, g1, g3, by rw [Nat.zero_add]; exact g4⟩
    · rcases h7 with h | ⟨g1, b2, g2, g0, g3, g4⟩
      · exact .inl h
      · exact .inr ⟨g1, b2, g2, g3, g4⟩

def pnf (n : Nd) (a r : Option Addr) (f : Nat) : Value :=
  if f = 0 then .string n.id else if f = 1 then .string n.ty else if f = 2 then .string ByteArray.empty else if f = 3 then .map .none else if f = 4 then .pointer a else if f = 5 then .pointer r else .pointer .none

/-- The definition's nodes, in memory. -/
def PL (w : World) (a : Option Addr) (l : List Nd) : Prop :=
  ∀ (i : Nat) (n : Nd), l[i]? = some n → ∃ pa ra b off, a = some ⟨b, off, .none⟩ ∧ b < w.heap.size ∧ PolAt w n pa ∧ RetAt w n ra ∧ ∀ f, f < 7 → w.cell? ⟨b, off + i * 7 + f, .none⟩ = some (pnf n pa ra f)

theorem PL.mono {w w' : World} {a : Option Addr} {l : List Nd} (h : PL w a l) (hB : Below w.heap.size w w') : PL w' a l := by
  intro i n hn
  obtain ⟨pa, ra, b, off, h1, h2, h3, h4, h5⟩ := h i n hn
  exact ⟨pa, ra, b, off, h1, Nat.lt_of_lt_of_le h2 hB.size, h3.mono hB, h4.mono hB, fun f hf => (hB.cell h2).trans (h5 f hf)⟩

theorem Tryf.info50 : (Tryf.prog.info? 50).map (fun i => (i.zero, i.size, i.bytes)) = some (some (.agg #[.string ByteArray.empty, .string ByteArray.empty, .string ByteArray.empty, .map .none, .pointer .none, .pointer .none, .pointer .none]), 7, 80) := by kernel_rfl

theorem make27 (n : Nat) (hn : n ≤ 1048576) (w : World) : (Instr.makeSlice 27 (.int .i64 (n : Int)) (.int .i64 (n : Int))).run Tryf.prog w = .ok (.slice (some ⟨w.heap.size, 0, .none⟩) n n) (w.alloc (.cells (madeCells #[.string ByteArray.empty, .string ByteArray.empty, .string ByteArray.empty, .map .none, .pointer .none, .pointer .none, .pointer .none] (n * 7)) 50)) := by
  obtain ⟨i, hi, hz⟩ := Option.map_eq_some_iff.1 Tryf.info50
  simp only [Prod.mk.injEq] at hz
  obtain ⟨h1, h2, h3⟩ := hz
  have h := run_make (P := Tryf.prog) w 27 50 i _ Tryf.underlying27 hi h1 .i64 .i64 (n : Int) (n : Int) (by omega) (Int.le_refl _) (by rw [h3]; omega) (by omega)
  rw [h2] at h
  simpa [Value.cells] using h

def zpn : Nd := ⟨ByteArray.empty, ByteArray.empty, false, ByteArray.empty, ByteArray.empty, false, false, 0, .none, [], 0⟩

theorem made27 (w : World) (n : Nat) : (w.alloc (.cells (madeCells #[.string ByteArray.empty, .string ByteArray.empty, .string ByteArray.empty, .map .none, .pointer .none, .pointer .none, .pointer .none] (n * 7)) 50)).rowIs w.heap.size 50 (n * 7) (fun q => pnf zpn .none .none (q % 7)) := by
  have h := World.rowIs_alloc w (madeCells #[.string ByteArray.empty, .string ByteArray.empty, .string ByteArray.empty, .map .none, .pointer .none, .pointer .none, .pointer .none] (n * 7)) 50 (fun q => pnf zpn .none .none (q % 7)) (fun i hi => by
    rw [size_madeCells] at hi
    have hlt : i % 7 < 7 := Nat.mod_lt _ (by omega)
    generalize hr : i % 7 = r at *
    rcases (show r = 0 ∨ r = 1 ∨ r = 2 ∨ r = 3 ∨ r = 4 ∨ r = 5 ∨ r = 6 by omega) with rfl | rfl | rfl | rfl | rfl | rfl | rfl <;> simp [madeCells, hi, hr, pnf, zpn])
  rw [size_madeCells] at h
  exact h

theorem Tryf.info57 : (Tryf.prog.info? 57).map (fun i => (i.zero, i.size, i.bytes)) = some (some (.float .f64 0), 1, 8) := by kernel_rfl

theorem make41 (n : Nat) (hn : n ≤ 1048576) (w : World) : (Instr.makeSlice 41 (.int .i64 (n : Int)) (.int .i64 (n : Int))).run Tryf.prog w = .ok (.slice (some ⟨w.heap.size, 0, .none⟩) n n) (w.alloc (.cells (madeCells #[.float .f64 0] n) 57)) := by
  obtain ⟨i, hi, hz⟩ := Option.map_eq_some_iff.1 Tryf.info57
  simp only [Prod.mk.injEq] at hz
  obtain ⟨h1, h2, h3⟩ := hz
  have h := run_make (P := Tryf.prog) w 41 57 i _ Tryf.underlying41 hi h1 .i64 .i64 (n : Int) (n : Int) (by omega) (Int.le_refl _) (by rw [h3]; omega) (by omega)
  rw [h2, Nat.mul_one] at h
  simpa [Value.cells] using h

def ndf (n : Nd) (q : Nat) : Value :=
  if q = 0 then .string n.id else if q = 1 then .string n.ty else if q = 2 then .bool n.hp else if q = 3 then .string n.pt else if q = 4 then .string n.ee else if q = 5 then .bool n.hr else if q = 6 then .bool n.hm else if q = 7 then .int .i64 n.mr else .slice n.da n.dl.length n.dc

theorem row7 {v0 v1 v2 v3 v4 v5 v6 : Value} (w : World) (t : TypeId) (f : Nat → Value) (h0 : v0 = f 0) (h1 : v1 = f 1) (h2 : v2 = f 2) (h3 : v3 = f 3) (h4 : v4 = f 4) (h5 : v5 = f 5) (h6 : v6 = f 6) :
    (w.alloc (.cells #[v0, v1, v2, v3, v4, v5, v6] t)).rowIs w.heap.size t 7 f :=
  World.rowIs_alloc w _ t f (fun i hi => by
    have hi : i < 7 := hi
    rcases (show i = 0 ∨ i = 1 ∨ i = 2 ∨ i = 3 ∨ i = 4 ∨ i = 5 ∨ i = 6 by omega) with rfl | rfl | rfl | rfl | rfl | rfl | rfl <;> simp_all)

theorem row7' {v0 v1 v2 v3 v4 v5 v6 : Value} (w : World) (o : Obj) (t : TypeId) (f : Nat → Value) (h0 : v0 = f 0) (h1 : v1 = f 1) (h2 : v2 = f 2) (h3 : v3 = f 3) (h4 : v4 = f 4) (h5 : v5 = f 5) (h6 : v6 = f 6) :
    ((w.alloc o).alloc (.cells #[v0, v1, v2, v3, v4, v5, v6] t)).rowIs (w.heap.size + 1) t 7 f := by
  have := row7 (w.alloc o) t f h0 h1 h2 h3 h4 h5 h6
  simpa using this

theorem row9 {v0 v1 v2 v3 v4 v5 v6 v7 v8 : Value} (w : World) (t : TypeId) (f : Nat → Value) (h0 : v0 = f 0) (h1 : v1 = f 1) (h2 : v2 = f 2) (h3 : v3 = f 3) (h4 : v4 = f 4) (h5 : v5 = f 5) (h6 : v6 = f 6) (h7 : v7 = f 7) (h8 : v8 = f 8) :
    (w.alloc (.cells #[v0, v1, v2, v3, v4, v5, v6, v7, v8] t)).rowIs w.heap.size t 9 f :=
  World.rowIs_alloc w _ t f (fun i hi => by
    have hi : i < 9 := hi
    rcases (show i = 0 ∨ i = 1 ∨ i = 2 ∨ i = 3 ∨ i = 4 ∨ i = 5 ∨ i = 6 ∨ i = 7 ∨ i = 8 by omega) with rfl | rfl | rfl | rfl | rfl | rfl | rfl | rfl | rfl <;> simp_all)

theorem row2 {v0 v1 : Value} (w : World) (t : TypeId) (f : Nat → Value) (h0 : v0 = f 0) (h1 : v1 = f 1) : (w.alloc (.cells #[v0, v1] t)).rowIs w.heap.size t 2 f :=
  World.rowIs_alloc w _ t f (fun i hi => by
    have hi : i < 2 := hi
    rcases (show i = 0 ∨ i = 1 by omega) with rfl | rfl <;> simp_all)

/-- In the midst of a round: the two boxes. -/
structure St (wr wx : World) (s : Nat) (nd : Nd) (pa ra : Option Addr) : Prop where
  box : wx.rowIs s 43 9 (ndf nd)
  pn : wx.rowIs (s + 1) 50 7 (pnf nd pa ra)
  bel : Below s wr wx
  pol : PolG wx (s + 2) nd pa

theorem lowP {w : World} {lo lo' : Nat} {n : Nd} {a : Option Addr} (h : PolG w lo n a) (hl : lo' ≤ lo) : PolG w lo' n a := by
  rcases h with h | ⟨h1, b, h2, h0, h3⟩
  · exact .inl h
  · exact .inr ⟨h1, b, h2, Nat.le_trans hl h0, h3⟩

theorem lowR {w : World} {lo lo' : Nat} {n : Nd} {r : Option Addr} (h : RetG w lo n r) (hl : lo' ≤ lo) : RetG w lo' n r := by
  rcases h with h | ⟨h1, b, mp, da, dc, h2, h0, h3, h4, h5, h6, h7⟩
  · exact .inl h
  · refine .inr ⟨h1, b, mp, da, dc, h2, Nat.le_trans hl h0, h3, h4, h5, fun j x hx => ?_, ?_⟩
    · obtain ⟨b', g1, g2, g3, g4⟩ := h6 j x hx
      exact ⟨b', g1, Nat.le_trans hl g2, g3, g4⟩
    · rcases h7 with h | ⟨g1, b2, g2, g0, g3, g4⟩
      · exact .inl h
      · exact .inr ⟨g1, b2, g2, Nat.le_trans hl g0, g3, g4⟩

def rpf (mp : Option Addr) (v : Value) (q : Nat) : Value := if q = 0 then .pointer mp else v

def MpG (w : World) (lo : Nat) (n : Nd) (mp : Option Addr) : Prop :=
  (n.hm = false ∧ mp = .none) ∨ (n.hm = true ∧ ∃ b2, mp = some ⟨b2, 0, .none⟩ ∧ lo ≤ b2 ∧ b2 < w.heap.size ∧ w.cell? ⟨b2, 0, .none⟩ = some (.int .i64 n.mr))

theorem St.below {wr w1 w2 : World} {s : Nat} {nd : Nd} {pa ra : Option Addr} (h : St wr w1 s nd pa ra) (hB : Below w1.heap.size w1 w2) : St wr w2 s nd pa ra where
  box := h.box.of_block (hB.block _ h.box.lt)
  pn := h.pn.of_block (hB.block _ h.pn.lt)
  bel := h.bel.trans (hB.mono (Nat.le_of_lt h.box.lt))
  pol := h.pol.keep ⟨hB.size, fun j _ hj => hB.block j hj⟩

theorem St.retry {wr w1 : World} {s : Nat} {nd : Nd} {pa : Option Addr} (h : St wr w1 s nd pa .none) (r : Option Addr) : St wr (w1.setCell ⟨s + 1, 5, .none⟩ (.pointer r)) s nd pa r where
  box := h.box.setOther (by simp) _
  pn := (h.pn.set 5 _).congr (fun i hi => by
    rcases (show i = 0 ∨ i = 1 ∨ i = 2 ∨ i = 3 ∨ i = 4 ∨ i = 5 ∨ i = 6 by omega) with rfl | rfl | rfl | rfl | rfl | rfl | rfl <;> simp [pnf])
  bel := h.bel.setCell (by simp) _
  pol := h.pol.keep ⟨by simp, fun j h1 h2 => Below.heap_setCell _ _ _ _ (by simp; omega)⟩

def put7 (f : Nat → Value) (k : Nat) (nd : Nd) (pa ra : Option Addr) (q : Nat) : Value := if q / 7 = k then pnf nd pa ra (q % 7) else f q

theorem set7 {w : World} {B m k : Nat} {f : Nat → Value} (h : w.rowIs B 50 m f) (nd : Nd) (pa ra : Option Addr) :
    (((((((w.setCell ⟨B, k * 7, .none⟩ (.string nd.id)).setCell ⟨B, k * 7 + 1, .none⟩ (.string nd.ty)).setCell ⟨B, k * 7 + 2, .none⟩ (.string ByteArray.empty)).setCell ⟨B, k * 7 + 3, .none⟩ (.map .none)).setCell ⟨B, k * 7 + 4, .none⟩ (.pointer pa)).setCell ⟨B, k * 7 + 5, .none⟩ (.pointer ra)).setCell ⟨B, k * 7 + 6, .none⟩ (.pointer .none)).rowIs B 50 m (put7 f k nd pa ra) := by
  have h7 := ((((((h.set (k * 7) (.string nd.id)).set (k * 7 + 1) (.string nd.ty)).set (k * 7 + 2) (.string ByteArray.empty)).set (k * 7 + 3) (.map .none)).set (k * 7 + 4) (.pointer pa)).set (k * 7 + 5) (.pointer ra)).set (k * 7 + 6) (.pointer .none)
  refine h7.congr (fun q hq => ?_)
  unfold put7
  by_cases e1 : q / 7 = k
  · rw [if_pos e1]
    have hq7 : q = k * 7 + q % 7 := by omega
    have hlt : q % 7 < 7 := Nat.mod_lt _ (by omega)
    generalize q % 7 = r at *
    subst hq7
    rcases (show r = 0 ∨ r = 1 ∨ r = 2 ∨ r = 3 ∨ r = 4 ∨ r = 5 ∨ r = 6 by omega) with rfl | rfl | rfl | rfl | rfl | rfl | rfl <;> simp [pnf]
  · have n0 : ¬ q = k * 7 := by omega
    have n1 : ¬ q = k * 7 + 1 := by omega
    have n2 : ¬ q = k * 7 + 2 := by omega
    have n3 : ¬ q = k * 7 + 3 := by omega
    have n4 : ¬ q = k * 7 + 4 := by omega
    have n5 : ¬ q = k * 7 + 5 := by omega
    have n6 : ¬ q = k * 7 + 6 := by omega
    rw [if_neg e1]
    simp only [n0, n1, n2, n3, n4, n5, n6, if_false]

theorem EL.other {w : World} {b off : Nat} {l : List Ed} (h : EL w (some ⟨b, off, .none⟩) l) {c : Addr} (hc : b ≠ c.block) (v : Value) : EL (w.setCell c v) (some ⟨b, off, .none⟩) l := by
  intro i e he
  obtain ⟨b', off', h1, h2, h3, h4, h5, h6⟩ := h i e he
  simp only [Option.some.injEq, Addr.mk.injEq] at h1
  obtain ⟨rfl, rfl, _⟩ := h1
  have key : ∀ q, (w.setCell c v).cell? ⟨b, q, .none⟩ = w.cell? ⟨b, q, .none⟩ := fun q => World.cell?_of_block (w := w) (Below.heap_setCell _ _ _ _ hc)
  exact ⟨b, off, rfl, by simpa using h2, (key _).trans h3, (key _).trans h4, (key _).trans h5, (key _).trans h6⟩

/-- The first k nodes are laid into block B. -/
structure Laid (w wr : World) (B n k : Nat) (l : List Nd) (f : Nat → Value) : Prop where
  row : wr.rowIs B 50 (n * 7) f
  good : ∀ (i : Nat) (nd : Nd), i < k → l[i]? = some nd → ∃ pa ra, PolG wr (B + 1) nd pa ∧ RetG wr (B + 1) nd ra ∧ ∀ q, q < 7 → f (i * 7 + q) = pnf nd pa ra q
  bel : Below w.heap.size w wr
  res : wr.rowIs w.heap.size 30 2 (fun _ => .slice .none 0 0)

set_option maxRecDepth 100000 in
set_option maxHeartbeats 8000000 in
theorem toDef (a ea : Option Addr) (cap ecap : Nat) (l : List Nd) (E : List Ed) (w : World) (hl : l.length ≤ 65536) (hm : E.length ≤ 65536) (hN : NL w a l) (hE : EL w ea E) (hd : ∀ n ∈ l, n.dl.length ≤ 1048576) :
    Calls Tryf.prog 8 #[.slice a l.length cap, .slice ea E.length ecap] w fun e w' => ∃ B C, e = .returned (.agg #[.slice (some ⟨B, 0, .none⟩) l.length l.length, .slice (some ⟨C, 0, .none⟩) E.length E.length]) ∧
      PL w' (some ⟨B, 0, .none⟩) l ∧ EL w' (some ⟨C, 0, .none⟩) E ∧ Below w.heap.size w w' := by
  have hmk := make27 l.length (by omega)
  have HN := hide hN
  have HE := hide hE
  have HD := hide hd
  clear hN hE hd
  generalize hn : l.length = n at hl hmk ⊢
  have HL := hide hn
  clear hn
  go_enter Tryf.func8, Tryf.ntmps8
  go_wp2_with fail
  go_loopg [6] (n + 1) (fun g v6 wr => ∃ (k : Nat) (f : Nat → Value), g = n + 1 - k ∧ k ≤ n ∧ v6 = .int .i64 k ∧ Laid w wr (w.heap.size + 1) n k l f)
  case atStart =>
    refine ⟨0, fun q => pnf zpn .none .none (q % 7), rfl, Nat.zero_le _, rfl, ⟨?_, fun i nd hi => absurd hi (Nat.not_lt_zero _), ?_, ?_⟩⟩
    · have := made27 (w.alloc (.cells #[.slice .none 0 0, .slice .none 0 0] 30)) n
      simpa using this
    · exact ((Below.refl _ w).alloc (Nat.le_refl _) _).alloc (by simp) _
    · exact (row2 w 30 (fun _ => .slice .none 0 0) rfl rfl).alloc _
  case round =>
    obtain ⟨k, f, rfl, hk, rfl, hL⟩ := hrel
    clear hmk
    by_cases h1 : k < n
    · obtain ⟨nd, hnd⟩ := at_some l k (by rw [HL.out]; exact h1)
      obtain ⟨ok, b, off, rfl, hb, c0, c1, c2, c3, c4, c5, c6, c7, c8⟩ := (unhide HN) k nd hnd
      have hB := hL.bel
      have d0 := (hB.cell (p := ⟨b, off + k * 9, .none⟩) hb).trans c0
      have d1 := (hB.cell (p := ⟨b, off + k * 9 + 1, .none⟩) hb).trans c1
      have d2 := (hB.cell (p := ⟨b, off + k * 9 + 2, .none⟩) hb).trans c2
      have d3 := (hB.cell (p := ⟨b, off + k * 9 + 3, .none⟩) hb).trans c3
      have d4 := (hB.cell (p := ⟨b, off + k * 9 + 4, .none⟩) hb).trans c4
      have d5 := (hB.cell (p := ⟨b, off + k * 9 + 5, .none⟩) hb).trans c5
      have d6 := (hB.cell (p := ⟨b, off + k * 9 + 6, .none⟩) hb).trans c6
      have d7 := (hB.cell (p := ⟨b, off + k * 9 + 7, .none⟩) hb).trans c7
      have d8 := (hB.cell (p := ⟨b, off + k * 9 + 8, .none⟩) hb).trans c8
      have hBs : w.heap.size + 1 < wr.heap.size := hL.row.lt
      have r0 := hL.row.cell (i := k * 7) (by omega)
      have r1 := hL.row.cell (i := k * 7 + 1) (by omega)
      have r2 := hL.row.cell (i := k * 7 + 2) (by omega)
      have r3 := hL.row.cell (i := k * 7 + 3) (by omega)
      have r4 := hL.row.cell (i := k * 7 + 4) (by omega)
      have r5 := hL.row.cell (i := k * 7 + 5) (by omega)
      have r6 := hL.row.cell (i := k * 7 + 6) (by omega)
      have f0 := hL.row.frozen (k * 7)
      have f1 := hL.row.frozen (k * 7 + 1)
      have f2 := hL.row.frozen (k * 7 + 2)
      have f3 := hL.row.frozen (k * 7 + 3)
      have f4 := hL.row.frozen (k * 7 + 4)
      have f5 := hL.row.frozen (k * 7 + 5)
      have f6 := hL.row.frozen (k * 7 + 6)
      have hki : (k : Int) < (n : Int) := by omega
      have HX := hide (And.intro hL (And.intro hB (And.intro ok hnd)))
      clear hL hB ok hnd c0 c1 c2 c3 c4 c5 c6 c7 c8
      go_upto_if 32 with fail
      go_cut [] from 16 to 82 (fun wx => ∃ pa, St wr wx wr.heap.size nd pa .none)
      case first =>
        have HB := hide (row9 wr 43 (ndf nd) (v0 := .string nd.id) (v1 := .string nd.ty) (v2 := .bool nd.hp) (v3 := .string nd.pt) (v4 := .string nd.ee) (v5 := .bool nd.hr) (v6 := .bool nd.hm) (v7 := .int .i64 nd.mr) (v8 := .slice nd.da nd.dl.length nd.dc) rfl rfl rfl rfl rfl rfl rfl rfl rfl)
        cases h3 : nd.hp with
        | false =>
          have H3 := hide h3
          rw [h3] at HB
          clear h3
          go_wp2_with fail
          go_meet
          case rel =>
            refine ⟨.none, (unhide HB).alloc _, ?_, ((Below.refl _ wr).alloc (Nat.le_refl _) _).alloc (by simp) _, .inl ⟨unhide H3, rfl⟩⟩
            exact row7' wr _ 50 (pnf nd .none .none) rfl rfl rfl rfl rfl rfl rfl
        | true =>
          have H3 := hide h3
          rw [h3] at HB
          clear h3
          go_wp2_with fail
          go_meet
          case rel =>
            refine ⟨some ⟨wr.heap.size + 1 + 1, 0, .none⟩, ((unhide HB).alloc _).alloc _, (row7' wr _ 50 (pnf nd (some ⟨wr.heap.size + 1 + 1, 0, .none⟩) .none) rfl rfl rfl rfl rfl rfl rfl).alloc _, (((Below.refl _ wr).alloc (Nat.le_refl _) _).alloc (by simp) _).alloc (by simp; omega) _, .inr ⟨unhide H3, _, rfl, by omega, by simp, ?_, ?_⟩⟩
            · rw [World.cell?_alloc_at (hn := by simp)]; rfl
            · rw [World.cell?_alloc_at (hn := by simp)]; rfl
      case rest =>
        obtain ⟨pa, hS⟩ := hcut
        obtain ⟨w1, hw1⟩ : ∃ w1, w1 = wc := ⟨_, rfl⟩
        subst hw1
        have hlt1 := hS.pn.lt
        have hlt0 := hS.box.lt
        have e5 : w1.cell? ⟨wr.heap.size, 5, .none⟩ = some (.bool nd.hr) := hS.box.cell (i := 5) (by omega)
        have e6 : w1.cell? ⟨wr.heap.size, 6, .none⟩ = some (.bool nd.hm) := hS.box.cell (i := 6) (by omega)
        have e7 : w1.cell? ⟨wr.heap.size, 7, .none⟩ = some (.int .i64 nd.mr) := hS.box.cell (i := 7) (by omega)
        have e8 : w1.cell? ⟨wr.heap.size, 8, .none⟩ = some (.slice nd.da nd.dl.length nd.dc) := hS.box.cell (i := 8) (by omega)
        have HS := hide hS
        clear hS
        go_upto_if 41 with fail
        go_cut [9, 10, 11, 12] from 16 to 82 (fun v9 v10 v11 v12 wx => ∃ pa ra, St wr wx wr.heap.size nd pa ra ∧ RetG wx (wr.heap.size + 2) nd ra)
        case first =>
          cases h3 : nd.hr with
          | false =>
            have H3 := hide h3
            rw [h3] at e5
            clear h3
            go_wp2_with fail
            go_meet
            case rel => exact ⟨pa, .none, unhide HS, .inl ⟨unhide H3, rfl⟩⟩
          | true =>
            have H3 := hide h3
            rw [h3] at e5
            clear h3
            go_upto_if 45 with fail
            go_cut [10] from 16 to 82 (fun v10 wy => ∃ mp, Below w1.heap.size w1 wy ∧ wy.rowIs w1.heap.size 56 2 (rpf mp (.slice .none 0 0)) ∧ MpG wy (w1.heap.size + 1) nd mp)
            case first =>
              cases h4 : nd.hm with
              | false =>
                have H4 := hide h4
                rw [h4] at e6
                clear h4
                go_wp2_with fail
                go_meet
                case rel => exact ⟨.none, (Below.refl _ w1).alloc (Nat.le_refl _) _, row2 w1 56 _ rfl rfl, .inl ⟨unhide H4, rfl⟩⟩
              | true =>
                have H4 := hide h4
                rw [h4] at e6
                clear h4
                go_wp2_with fail
                go_meet
                case rel =>
                  refine ⟨some ⟨w1.heap.size + 1, 0, .none⟩, ((Below.refl _ w1).alloc (Nat.le_refl _) _).alloc (by simp) _, (row2 w1 56 (rpf (some ⟨w1.heap.size + 1, 0, .none⟩) (.slice .none 0 0)) rfl rfl).alloc _, .inr ⟨unhide H4, _, rfl, Nat.le_refl _, by simp, ?_⟩⟩
                  rw [World.cell?_alloc_at (hn := by simp)]; rfl
            case rest =>
              obtain ⟨mp, hB2, hR2, hM2⟩ := hcut
              obtain ⟨w2, hw2⟩ : ∃ w2, w2 = wc := ⟨_, rfl⟩
              subst hw2
              have hlt2 := hR2.lt
              have g8 := (hB2.cell (p := ⟨wr.heap.size, 8, .none⟩) hlt0).trans e8
              have hlt02 : wr.heap.size < w2.heap.size := Nat.lt_of_lt_of_le hlt0 hB2.size
              have p0 := hR2.cell (i := 0) (by omega)
              have p1 := hR2.cell (i := 1) (by omega)
              have q1 := hR2.frozen 1
              have HR := hide (And.intro hB2 (And.intro hR2 hM2))
              clear hB2 hR2 hM2 e5 e6 e7 e8
              have hne := fun W => run_neq_slice_nil_any (P := Tryf.prog) W 41 57 nd.da nd.dl.length nd.dc 0 0 Tryf.underlying41
              go_upto_if 53 with fail
              go_cut [11, 12] from 16 to 82 (fun v11 v12 wz => Below w1.heap.size w1 wz ∧ RetG wz (wr.heap.size + 2) nd (some ⟨w1.heap.size, 0, .none⟩))
              case first =>
                cases hda : nd.da with
                | none =>
                  rw [hda] at hne g8
                  have hdl : nd.dl = [] := (unhide HX).2.2.1.nil hda
                  have HDL := hide hdl
                  clear hda hdl
                  go_wp2_with fail
                  go_meet
                  case rel =>
                    obtain ⟨x1, x2, x3⟩ := unhide HR
                    refine ⟨x1, .inr ⟨unhide H3, w1.heap.size, mp, .none, 0, rfl, by omega, x2.lt, x2.cell (i := 0) (by omega), ?_, ?_, ?_⟩⟩
                    · rw [unhide HDL]; exact x2.cell (i := 1) (by omega)
                    · intro j x hx
                      rw [unhide HDL] at hx
                      simp at hx
                    · rcases x3 with h | ⟨g1, b2, g2, g0, g3, g4⟩
                      · exact .inl h
                      · exact .inr ⟨g1, b2, g2, by omega, g3, g4⟩
                | some ad =>
                  rw [hda] at hne g8
                  have hml : nd.dl.length ≤ 1048576 := unhide HD nd (List.mem_of_getElem? (unhide HX).2.2.2)
                  have hmk := make41 nd.dl.length hml
                  have HDA := hide hda
                  clear hda
                  obtain ⟨w0, hw0⟩ : ∃ w0, w0 = wr := ⟨_, rfl⟩
                  subst hw0
                  generalize hmm : nd.dl.length = m at hml hmk hne g8
                  have HM := hide hmm
                  clear hmm
                  go_wp2_with fail
                  go_loopg [12] (m + 1) (fun g v12 wz => ∃ (j : Nat) (h : Nat → Value), g = m + 1 - j ∧ j ≤ m ∧ v12 = .int .i64 j ∧ Below w2.heap.size w2 wz ∧ wz.rowIs w2.heap.size 57 m h ∧ (∀ i x, i < j → nd.dl[i]? = some x → h i = .float .f64 x))
                  case atStart => exact ⟨0, fun _ => .float .f64 0, rfl, Nat.zero_le _, rfl, (Below.refl _ w2).alloc (Nat.le_refl _) _, World.rowIs_made w2 _ _ _, fun i x hi => absurd hi (Nat.not_lt_zero _)⟩
                  case round =>
                    obtain ⟨j, h, rfl, hj, rfl, hB4, hR4, hh⟩ := hrel
                    have g9 := (hB4.cell (p := ⟨w0.heap.size, 8, .none⟩) hlt02).trans g8
                    have hlt4 : w0.heap.size < wr.heap.size := Nat.lt_of_lt_of_le hlt02 hB4.size
                    by_cases h5 : j < m
                    · obtain ⟨x, hx⟩ := at_some nd.dl j (by rw [HM.out]; exact h5)
                      obtain ⟨b', off', e1, hb', c0⟩ := (unhide HX).2.2.1.fl j x hx
                      rw [unhide HDA] at e1
                      injection e1 with e1
                      subst e1
                      have hBw := bthen (bthen (bthen (unhide HX).2.1 (unhide HS).bel) (unhide HR).1) hB4
                      have d9 := (hBw.cell (p := ⟨b', off' + j, .none⟩) hb').trans c0
                      have m0 := hR4.cell (i := j) h5
                      have m1 := hR4.frozen j
                      have hji : (j : Int) < (m : Int) := by omega
                      have hst : (store ⟨w2.heap.size, j, .none⟩ (.float .f64 x)).run Tryf.prog wr = .ok () (wr.setCell ⟨w2.heap.size, j, .none⟩ (.float .f64 x)) := by
                        rw [run_store _ _ _ _ _ rfl]; simp [stored, m0, m1]
                      have HQ := hide (And.intro hB4 (And.intro hR4 (And.intro hh hx)))
                      clear hB4 hR4 hh hx hBw c0 hne hmk g8
                      go_wp2_with fail
                      go_roundg (m + 1 - (j + 1))
                      case measure => omega
                      case rel =>
                        obtain ⟨x1, x2, x3, x4⟩ := unhide HQ
                        refine ⟨j + 1, fun q => if q = j then .float .f64 x else h q, rfl, by omega, by go_num, x1.setCell (Nat.le_refl _) _, x2.set j _, fun i y hi hy => ?_⟩
                        by_cases e : i = j
                        · subst e
                          rw [x4] at hy
                          injection hy with hy
                          subst hy
                          simp
                        · simp only [e, if_false]
                          exact x3 i y (by omega) hy
                    · obtain rfl : j = m := by omega
                      have hR5 := (unhide HR).2.1.of_block (hB4.block _ hlt2)
                      have p0 := hR5.cell (i := 0) (by omega)
                      have p1 := hR5.cell (i := 1) (by omega)
                      have q1 := hR5.frozen 1
                      have HQ := hide (And.intro hB4 (And.intro hR4 (And.intro hh hR5)))
                      clear hB4 hR4 hh hR5 hne hmk g8
                      go_wp2_with fail
                      go_meet
                      case rel =>
                        obtain ⟨x1, x2, x3, x4⟩ := unhide HQ
                        obtain ⟨y1, y2, y3⟩ := unhide HR
                        refine ⟨(bthen y1 x1).setCell (Nat.le_refl _) _, .inr ⟨unhide H3, w1.heap.size, mp, some ⟨w2.heap.size, 0, .none⟩, j, rfl, by omega, by simpa using x4.lt, ?_, ?_, ?_, ?_⟩⟩
                        · exact (x4.set 1 _).cell (i := 0) (by omega)
                        · rw [unhide HM]; exact (x4.set 1 _).cell (i := 1) (by omega)
                        · intro i y hy
                          have hi : i < j := by
                            rw [← unhide HM]
                            exact (List.getElem?_eq_some_iff.1 hy).1
                          refine ⟨w2.heap.size, rfl, by omega, by simpa using x2.lt, ?_⟩
                          rw [← x3 i y hi hy]
                          exact (x2.setOther (a := ⟨w1.heap.size, 1, .none⟩) (by simp; omega) _).cell hi
                        · rcases y3 with h | ⟨g1, b2, g2, g0, g3, g4⟩
                          · exact .inl h
                          · refine .inr ⟨g1, b2, g2, by omega, by simpa using Nat.lt_of_lt_of_le g3 x1.size, ?_⟩
                            rw [World.cell?_of_block (w := wr) (Below.heap_setCell _ _ _ _ (by simp; omega))]
                            exact (x1.cell g3).trans g4
              case rest =>
                obtain ⟨hB3, hR3⟩ := hcut
                obtain ⟨w4, hw4⟩ : ∃ w4, w4 = wc := ⟨_, rfl⟩
                subst hw4
                have hS4 := (unhide HS).below hB3
                have t5 : w4.cell? ⟨wr.heap.size + 1, 5, .none⟩ = some (.pointer .none) := hS4.pn.cell (i := 5) (by omega)
                have u5 := hS4.pn.frozen 5
                have HZ := hide (And.intro hS4 hR3)
                clear hS4 hR3 hB3
                go_wp2_with fail
                go_meet
                case rel =>
                  refine ⟨pa, some ⟨w1.heap.size, 0, .none⟩, (unhide HZ).1.retry _, (unhide HZ).2.keep ⟨by simp, fun j h1 h2 => Below.heap_setCell _ _ _ _ (by simp; omega)⟩⟩
        case rest =>
          obtain ⟨pa, ra, hS, hR⟩ := hcut
          obtain ⟨w3, hw3⟩ : ∃ w3, w3 = wc := ⟨_, rfl⟩
          subst hw3
          have hlt3 := hS.pn.lt
          have t0 : w3.cell? ⟨wr.heap.size + 1, 0, .none⟩ = some (.string nd.id) := hS.pn.cell (i := 0) (by omega)
          have t1 : w3.cell? ⟨wr.heap.size + 1, 1, .none⟩ = some (.string nd.ty) := hS.pn.cell (i := 1) (by omega)
          have t2 : w3.cell? ⟨wr.heap.size + 1, 2, .none⟩ = some (.string ByteArray.empty) := hS.pn.cell (i := 2) (by omega)
          have t3 : w3.cell? ⟨wr.heap.size + 1, 3, .none⟩ = some (.map .none) := hS.pn.cell (i := 3) (by omega)
          have t4 : w3.cell? ⟨wr.heap.size + 1, 4, .none⟩ = some (.pointer pa) := hS.pn.cell (i := 4) (by omega)
          have t5 : w3.cell? ⟨wr.heap.size + 1, 5, .none⟩ = some (.pointer ra) := hS.pn.cell (i := 5) (by omega)
          have t6 : w3.cell? ⟨wr.heap.size + 1, 6, .none⟩ = some (.pointer .none) := hS.pn.cell (i := 6) (by omega)
          have hrow : w3.rowIs (w.heap.size + 1) 50 (n * 7) f := (unhide HX).1.row.of_block (hS.bel.block _ hBs)
          clear r0 r1 r2 r3 r4 r5 r6 f0 f1 f2 f3 f4 f5 f6
          have r0 := hrow.cell (i := k * 7) (by omega)
          have r1 := hrow.cell (i := k * 7 + 1) (by omega)
          have r2 := hrow.cell (i := k * 7 + 2) (by omega)
          have r3 := hrow.cell (i := k * 7 + 3) (by omega)
          have r4 := hrow.cell (i := k * 7 + 4) (by omega)
          have r5 := hrow.cell (i := k * 7 + 5) (by omega)
          have r6 := hrow.cell (i := k * 7 + 6) (by omega)
          have f0 := hrow.frozen (k * 7)
          have f1 := hrow.frozen (k * 7 + 1)
          have f2 := hrow.frozen (k * 7 + 2)
          have f3 := hrow.frozen (k * 7 + 3)
          have f4 := hrow.frozen (k * 7 + 4)
          have f5 := hrow.frozen (k * 7 + 5)
          have f6 := hrow.frozen (k * 7 + 6)
          have HY := hide (And.intro hS (And.intro hR hrow))
          clear hS hR hrow e5 e6 e7 e8 HS d0 d1 d2 d3 d4 d5 d6 d7 d8
          go_wp2_with fail
          obtain ⟨x1, x2, x3⟩ := unhide HY
          go_roundg (n + 1 - (k + 1))
          case measure => omega
          case rel =>
            refine ⟨k + 1, put7 f k nd pa ra, rfl, by omega, by go_num, ⟨set7 x3 nd pa ra, fun i nd' hi hnd' => ?_, ?_, ?_⟩⟩
            · have hab : Above (w.heap.size + 1 + 1) wr w3 := ⟨x1.bel.size, fun j h1 h2 => x1.bel.block j h2⟩
              have hab2 : ∀ W : World, Above (w.heap.size + 1 + 1) w3 W → Above (w.heap.size + 1 + 1) wr W := fun W h => ⟨Nat.le_trans hab.size h.size, fun j h1 h2 => (h.block j h1 (Nat.lt_of_lt_of_le h2 hab.size)).trans (hab.block j h1 h2)⟩
              have hfin : ∀ W : World, W = (((((((w3.setCell ⟨w.heap.size + 1, k * 7, .none⟩ (.string nd.id)).setCell ⟨w.heap.size + 1, k * 7 + 1, .none⟩ (.string nd.ty)).setCell ⟨w.heap.size + 1, k * 7 + 2, .none⟩ (.string ByteArray.empty)).setCell ⟨w.heap.size + 1, k * 7 + 3, .none⟩ (.map .none)).setCell ⟨w.heap.size + 1, k * 7 + 4, .none⟩ (.pointer pa)).setCell ⟨w.heap.size + 1, k * 7 + 5, .none⟩ (.pointer ra)).setCell ⟨w.heap.size + 1, k * 7 + 6, .none⟩ (.pointer .none)) → Above (w.heap.size + 1 + 1) w3 W := by
                rintro W rfl
                refine ⟨by simp, fun j h1 h2 => ?_⟩
                rw [Below.heap_setCell _ _ _ _ (by simp; omega), Below.heap_setCell _ _ _ _ (by simp; omega), Below.heap_setCell _ _ _ _ (by simp; omega), Below.heap_setCell _ _ _ _ (by simp; omega), Below.heap_setCell _ _ _ _ (by simp; omega), Below.heap_setCell _ _ _ _ (by simp; omega), Below.heap_setCell _ _ _ _ (by simp; omega)]
              have hA := hfin _ rfl
              by_cases e : i = k
              · subst e
                obtain rfl : nd' = nd := Option.some.inj (hnd'.symm.trans (unhide HX).2.2.2)
                refine ⟨pa, ra, (lowP x1.pol (by omega)).keep hA, (lowR x2 (by omega)).keep hA, fun q hq => ?_⟩
                unfold put7
                rw [show (i * 7 + q) / 7 = i by omega, show (i * 7 + q) % 7 = q by omega, if_pos rfl]
              · obtain ⟨pa', ra', y1, y2, y3⟩ := (unhide HX).1.good i nd' (by omega) hnd'
                refine ⟨pa', ra', y1.keep (hab2 _ hA), y2.keep (hab2 _ hA), fun q hq => ?_⟩
                unfold put7
                rw [show (i * 7 + q) / 7 = i by omega, if_neg e]
                exact y3 q hq
            · have hb1 := bthen (unhide HX).2.1 x1.bel
              exact ((((((hb1.setCell (by simp) _).setCell (by simp) _).setCell (by simp) _).setCell (by simp) _).setCell (by simp) _).setCell (by simp) _).setCell (by simp) _
            · have hz := (unhide HX).1.res.of_block (x1.bel.block _ (by omega))
              exact ((((((hz.setOther (by simp) _).setOther (by simp) _).setOther (by simp) _).setOther (by simp) _).setOther (by simp) _).setOther (by simp) _).setOther (by simp) _
    · obtain rfl : k = n := by omega
      have hEL := (unhide HE).mono hL.bel
      have HX := hide hL
      have hlt := hL.row.lt
      clear hL
      go_wp2_with (go_at_call 13; refine (toEdges ea ecap E _ (by omega) hEL).mono ?_; rintro e w5 ⟨rfl, hE5, hB5⟩; have hr5 := (unhide HX).res.of_block (hB5.block _ (by omega)); have y0 := hr5.cell (i := 0) (by omega); have y1 := hr5.cell (i := 1) (by omega); have y2 := hr5.frozen 0; have y3 := hr5.frozen 1; have HY := hide (And.intro hE5 (And.intro hB5 hr5)); clear hE5 hB5 hr5)
      obtain ⟨x1, x2, x3⟩ := unhide HY
      try simp only [Exit.inBlock, Exit.then]
      refine bodyPost_ret (v := .agg #[.slice (some ⟨w.heap.size + 1, 0, .none⟩) k k, .slice (some ⟨wr.heap.size, 0, .none⟩) E.length E.length]) ?_ rfl ⟨_, _, rfl, ?_, ?_, ?_⟩
      · rw [results_cell1 rfl]
        go_simp
      · have hA : ∀ W : World, W = ((w5.setCell ⟨w.heap.size, 0, .none⟩ (.slice (some ⟨w.heap.size + 1, 0, .none⟩) k k)).setCell ⟨w.heap.size, 1, .none⟩ (.slice (some ⟨wr.heap.size, 0, .none⟩) E.length E.length)) → Above (w.heap.size + 1) wr W := by
          rintro W rfl
          refine ⟨by simpa using x2.size, fun j h1 h2 => ?_⟩
          rw [Below.heap_setCell _ _ _ _ (by simp; omega), Below.heap_setCell _ _ _ _ (by simp; omega)]
          exact x2.block j h2
        have hA1 := hA _ rfl
        have hA2 : Above (w.heap.size + 1 + 1) wr _ := ⟨hA1.size, fun j h1 h2 => hA1.block j (by omega) h2⟩
        intro i nd hnd
        have hi : i < k := by
          rw [← HL.out]
          exact (List.getElem?_eq_some_iff.1 hnd).1
        obtain ⟨pa, ra, y1, y2, y3⟩ := (unhide HX).good i nd hi hnd
        have hrow := (unhide HX).row.of_block (hA1.block _ (Nat.le_refl _) hlt)
        refine ⟨pa, ra, w.heap.size + 1, 0, rfl, hrow.lt, (y1.keep hA2).at, (y2.keep hA2).at, fun q hq => ?_⟩
        rw [← y3 q hq, Nat.zero_add]
        exact hrow.cell (by omega)
      · exact (x1.other (by simp; omega) _).other (by simp; omega) _
      · exact (((bthen (unhide HX).bel x2).setCell (Nat.le_refl _) _).setCell (Nat.le_refl _) _)

end Go.Proofs.Qxb6614206aFmt
