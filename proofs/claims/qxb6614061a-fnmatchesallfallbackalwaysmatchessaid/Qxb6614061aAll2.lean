import Derived.Test.Qxb6614061aAll
set_option linter.unusedVariables false
set_option linter.unusedSimpArgs false
namespace Go.Proofs.Qxb6614061a
open Go.RowKit

/-- The cells of the slice of selections. -/
def selCells (V : Nat → Value) : Nat → Value := fun q => if q % 2 = 0 then .nilIface else V (q / 2)

/-- The cells of the slice of keys. -/
def keyCells (c : Nat → Bool) (v : Nat → ByteArray) : Nat → Value := fun i => if c i then ALL else LIT (v i)

def okAt (c : Nat → Bool) (v : Nat → ByteArray) (L : Nat → Nat) (S : Nat → Nat → ByteArray) (i : Nat) : Bool := c i || inPre (S i) (L i) (v i)

def matchB (n kn : Nat) (c : Nat → Bool) (v : Nat → ByteArray) (L : Nat → Nat) (S : Nat → Nat → ByteArray) : Bool := decide (kn = n) && (List.range n).all (okAt c v L S)

theorem matchB_ne {n kn : Nat} {c : Nat → Bool} {v : Nat → ByteArray} {L : Nat → Nat} {S : Nat → Nat → ByteArray} (h : kn ≠ n) : matchB n kn c v L S = false := by simp [matchB, h]

theorem matchB_yes {n : Nat} {c : Nat → Bool} {v : Nat → ByteArray} {L : Nat → Nat} {S : Nat → Nat → ByteArray} (h : ∀ i, i < n → okAt c v L S i = true) : matchB n n c v L S = true := by
  simp [matchB]; exact h

theorem matchB_no {n k : Nat} {c : Nat → Bool} {v : Nat → ByteArray} {L : Nat → Nat} {S : Nat → Nat → ByteArray} (hk : k < n) (h : okAt c v L S k = false) : matchB n n c v L S = false := by
  simp [matchB]; exact ⟨k, hk, h⟩

theorem matches_len (Bs Bk n kn : Nat) (w : World) (h : kn ≠ n) :
    Calls Try.prog 16 #[SL Bs n, SL Bk kn] w fun e w' => e = .returned (.bool false) ∧ Below w.heap.size w w' := by
  have hne : ((kn : Int) != (n : Int)) = true := by rw [bne_iff_ne]; omega
  go_enter Try.func16, Try.ntmps16
  go_wp2_with fail
  go_ret
  exact ⟨rfl, Below.refl _ _⟩

set_option maxHeartbeats 1000000 in
theorem matches_same (Bs Bk n : Nat) (A : Nat → Option Addr) (L : Nat → Nat) (S : Nat → Nat → ByteArray) (V : Nat → Value) (c : Nat → Bool) (v : Nat → ByteArray) (w : World) (hn : n ≤ 1048576)
    (hs : w.rowIs Bs 48 (2 * n) (selCells V)) (hk : w.rowIs Bk 53 n (keyCells c v)) (hV : ∀ i, i < n → SelOk w (V i) (A i) (L i) (S i)) (hv : ∀ i, i < n → (v i).size ≤ maxLen) :
    Calls Try.prog 16 #[SL Bs n, SL Bk n] w fun e w' => e = .returned (.bool (matchB n n c v L S)) ∧ Below w.heap.size w w' := by
  have hne : ((n : Int) != (n : Int)) = false := by simp
  have HS := hide hs
  have HK := hide hk
  have HV := hide hV
  have Hv := hide hv
  have hbs := hs.lt
  have hbk := hk.lt
  generalize hr : matchB n n c v L S = r
  have HR := hide hr
  clear hs hk hV hv hr
  go_enter Try.func16, Try.ntmps16
  go_wp2_with fail
  go_loopg [16] (n + 1) (fun g v16 wr => ∃ (k : Nat), g = n + 1 - k ∧ k ≤ n ∧ v16 = .int .i64 k ∧ Hid (∀ j, j < k → okAt c v L S j = true) ∧ Below w.heap.size w wr)
  case atStart => exact ⟨0, rfl, Nat.zero_le _, rfl, fun j hj => absurd hj (Nat.not_lt_zero _), Below.refl _ _⟩
  case round =>
    obtain ⟨k, rfl, hk, rfl, HO, hB⟩ := hrel
    by_cases h1 : k < n
    · have hc1 : wr.cell? ⟨Bk, k, .none⟩ = some (keyCells c v k) := (hB.cell hbk).trans ((unhide HK).cell h1)
      have hc2 : wr.cell? ⟨Bs, k * 2, .none⟩ = some .nilIface := by
        refine (hB.cell hbs).trans (((unhide HS).cell (by omega)).trans ?_)
        simp [selCells]
      have hc3 : wr.cell? ⟨Bs, k * 2 + 1, .none⟩ = some (V k) := by
        refine (hB.cell hbs).trans (((unhide HS).cell (by omega)).trans ?_)
        unfold selCells
        rw [if_neg (by omega)]
        congr 2; omega
      have hsel : Hid (SelOk wr (V k) (A k) (L k) (S k)) := by
        rcases (unhide HV) k h1 with h | ⟨m, h2, h3⟩
        · exact .inl h
        · exact .inr ⟨m, h2, h3.of_block (hB.block _ h3.lt)⟩
      cases hck : c k with
      | true =>
        rw [show keyCells c v k = ALL by simp [keyCells, hck]] at hc1
        have hok : Hid (okAt c v L S k = true) := hide (by simp [okAt, hck])
        have he := eql_all
        clear hck
        go_wp2_with fail
        go_roundg (n + 1 - (k + 1))
        case measure => omega
        case rel =>
          refine ⟨k + 1, rfl, by omega, by go_num, fun j hj => ?_, hB⟩
          by_cases e : j < k
          · exact (unhide HO) j e
          · obtain rfl : j = k := by omega
            exact hok.out
      | false =>
        rw [show keyCells c v k = LIT (v k) by simp [keyCells, hck]] at hc1
        have hvk := (unhide Hv) k h1
        have hok : Hid (okAt c v L S k = inPre (S k) (L k) (v k)) := hide (by simp [okAt, hck])
        have he := eql_lit (v k)
        clear hck
        go_wp2_with fail
        refine (match_any (v k) hvk _ (V k) (A k) (L k) (S k) hsel.out).mono ?_
        rintro e w1 ⟨⟨x, rfl⟩, hB1⟩
        have hB2 : Below w.heap.size w w1 := hB.trans (hB1.mono hB.size)
        clear hB1 hB hsel hc1 hc2 hc3 he
        cases hp : inPre (S k) (L k) (v k) with
        | true =>
          have hok2 : Hid (okAt c v L S k = true) := hide (hok.out.trans hp)
          clear hp hok
          go_wp2_with fail
          go_roundg (n + 1 - (k + 1))
          case measure => omega
          case rel =>
            refine ⟨k + 1, rfl, by omega, by go_num, fun j hj => ?_, hB2⟩
            by_cases e : j < k
            · exact (unhide HO) j e
            · obtain rfl : j = k := by omega
              exact hok2.out
        | false =>
          have hok2 : Hid (okAt c v L S k = false) := hide (hok.out.trans hp)
          clear hp hok
          go_wp2_with fail
          go_ret
          exact ⟨by rw [← HR.out, matchB_no h1 hok2.out]; rfl, hB2⟩
    · obtain rfl : k = n := by omega
      go_wp2_with fail
      go_ret
      exact ⟨by rw [← HR.out, matchB_yes HO.out]; rfl, hB⟩

theorem matches_any (Bs Bk n kn : Nat) (A : Nat → Option Addr) (L : Nat → Nat) (S : Nat → Nat → ByteArray) (V : Nat → Value) (c : Nat → Bool) (v : Nat → ByteArray) (w : World) (hn : n ≤ 1048576)
    (hs : w.rowIs Bs 48 (2 * n) (selCells V)) (hk : w.rowIs Bk 53 kn (keyCells c v)) (hV : ∀ i, i < n → SelOk w (V i) (A i) (L i) (S i)) (hv : ∀ i, i < kn → (v i).size ≤ maxLen) :
    Calls Try.prog 16 #[SL Bs n, SL Bk kn] w fun e w' => e = .returned (.bool (matchB n kn c v L S)) ∧ Below w.heap.size w w' := by
  by_cases h : kn = n
  · subst h
    exact matches_same Bs Bk kn A L S V c v w hn hs hk hV hv
  · rw [matchB_ne h]
    exact matches_len Bs Bk n kn w h

end Go.Proofs.Qxb6614061a
