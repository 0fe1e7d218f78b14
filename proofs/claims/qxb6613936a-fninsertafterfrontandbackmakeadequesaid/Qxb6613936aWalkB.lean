import Derived.Test.Qxb6613936aDq
set_option linter.unusedVariables false
set_option linter.unusedSimpArgs false
namespace Go.Proofs.Qxb6613936a
open Go.RowKit

theorem hideB {p : Prop} (h : p) : Hid p := h
theorem unhideB {p : Prop} (h : Hid p) : p := h

/-- What the walk is told of the slice of bools that came in. -/
def Bools (w : World) (a : Option Addr) (len : Nat) (f : Nat → Bool) : Prop :=
  ∀ i : Nat, i < len → ∃ b off, a = some ⟨b, off, .none⟩ ∧ b < w.heap.size ∧ w.cell? ⟨b, off + i, .none⟩ = some (.bool (f i))

theorem bytes2 (a : Option Addr) (l c : Nat) (w : World) (h : l ≤ 1048576) :
    Calls Try.prog 10 #[.slice a l c] w fun e w' => e = .returned (.bool true) ∧ w' = w := by
  go_enter Try.func10, Try.ntmps10
  go_wp2
  go_ret
  exact ⟨rfl, rfl⟩

theorem bytes2_no (a : Option Addr) (l c : Nat) (w : World) (h : 1048576 < l) :
    Calls Try.prog 10 #[.slice a l c] w fun e w' => e = .returned (.bool false) ∧ w' = w := by
  go_enter Try.func10, Try.ntmps10
  go_wp2
  go_ret
  exact ⟨rfl, rfl⟩

theorem dwalk_long (a : Option Addr) (len cap : Nat) (w : World) (h : 1048576 < len) :
    Calls Try.prog 4 #[.slice a len cap] w fun e w' => e = .returned (.bool true) ∧ Below w.heap.size w w' := by
  go_enter Try.func4, Try.ntmps4
  go_wp2_with (go_at_call 10; refine (bytes2_no _ _ _ _ (by omega)).mono ?_; rintro e w' ⟨rfl, rfl⟩)
  go_ret
  exact ⟨rfl, Below.refl _ _⟩

theorem dwalk_mid (a : Option Addr) (len cap : Nat) (w : World) (h : len ≤ 1048576) (h2 : 65536 < len) :
    Calls Try.prog 4 #[.slice a len cap] w fun e w' => e = .returned (.bool true) ∧ Below w.heap.size w w' := by
  go_enter Try.func4, Try.ntmps4
  go_wp2_with (go_at_call 10; refine (bytes2 _ _ _ _ (by omega)).mono ?_; rintro e w' ⟨rfl, rfl⟩)
  go_ret
  exact ⟨rfl, Below.refl _ _⟩

set_option maxHeartbeats 2000000 in
theorem dwalk_main (a : Option Addr) (len cap : Nat) (f : Nat → Bool) (w : World) (h : len ≤ 65536) (hops : Bools w a len f) :
    Calls Try.prog 4 #[.slice a len cap] w fun e w' => e = .returned (.bool true) ∧ Below w.heap.size w w' := by
  have hmk1 := run_make_row' (P := Try.prog) 26 28 (.pointer .none) 8 Try.underlying26 Try.info28 rfl .i64 .i64 len (by omega) (by omega)
  have hmk2 := run_make_row' (P := Try.prog) 27 30 (.int .u64 0) 8 Try.underlying27 Try.info30 rfl .i64 .i64 len (by omega) (by omega)
  have Ho : Hid (Bools w a len f) := hops
  clear hops
  go_enter Try.func4, Try.ntmps4
  go_wp2_with (first | (go_at_call 10; refine (bytes2 _ _ _ _ (by omega)).mono ?_; rintro e w' ⟨rfl, rfl⟩) | (go_at_call 6; refine (newQ _).mono ?_; rintro e w2 ⟨rfl, rfl⟩))
  have hst := invD_start w' len
  go_loopg [6] (len + 1) (fun g v6 wr => ∃ i : Nat, ∃ (s : St), g = len + 1 - i ∧ i ≤ len ∧ v6 = .int .i64 i ∧ InvD w' wr len i (dq f i) s)
  case atStart => exact ⟨0, s0, rfl, Nat.zero_le _, rfl, hst⟩
  case round =>
    obtain ⟨i, s, rfl, hi, rfl, hI⟩ := hrel
    clear hst
    by_cases hik : i < len
    · obtain ⟨b, off, rfl, hb, hc⟩ := Ho.out i hik
      have hsz := hI.size
      have A : Hid (InvD w' wr len i (dq f i) s) := hI
      clear hI hmk1 hmk2
      go_wp2_with fail
      refine (newW _ _).mono ?_
      rintro e w2 ⟨rfl, hw2⟩
      have hI := A.out
      have hci : w2.cell? ⟨b, off + i, .none⟩ = some (.bool (f i)) := by
        rw [hw2, World.cell?_alloc_lt _ _ _ (by show b < _; omega)]; exact (hI.bel.cell hb).trans hc
      have hn1 : w2.cell? ⟨w'.heap.size + 1, i, .none⟩ = some (.pointer .none) := by
        rw [hw2, World.cell?_alloc_lt _ _ _ (by show w'.heap.size + 1 < _; omega), hI.nodes.cell hik]; simp
      have hn2 : w2.frozen? ⟨w'.heap.size + 1, i, .none⟩ = false := by
        rw [hw2]; exact (hI.nodes.alloc _).frozen i
      have hb1 : w'.heap.size + 1 ≠ b := by omega
      have hq1 : w2.cell? ⟨w'.heap.size, 1, .none⟩ = some (pt (w'.heap.size + 2) (atOf (dq f i) i)) := by
        rw [hw2, World.cell?_alloc_lt _ _ _ (by show w'.heap.size < _; omega), hI.mem.q1, hI.last]
      rw [hsz]
      have hw3 : w2 = wr.alloc (newWaiter ((i : Int) + 1)) := hw2
      clear Ho hc
      cases hf : f i with
      | true =>
        rw [hf] at hci
        have hc8 := insD hI hik (Nat.zero_le _) hw3
        rw [show pt (w'.heap.size + 2) (atOf (dq f i) 0) = .pointer .none from rfl] at hc8
        have H8 := hideB hc8
        have HF := hideB hf
        clear hI hw2 hw3 hc8 hf hq1
        go_wp2_with fail
        refine (unhideB H8).mono ?_
        clear H8
        rintro e w3 ⟨rfl, hI3⟩
        rw [← dq_front f i (unhideB HF)] at hI3
        have A3 := hideB hI3
        clear hI3 hci hn1 hn2 hb1 A hsz
        go_wp2_with fail
        go_roundg (len + 1 - (i + 1))
        case measure => omega
        case rel => exact ⟨i + 1, _, rfl, by omega, by go_num, unhideB A3⟩
      | false =>
        rw [hf] at hci
        have hc8 := insD hI hik (Nat.le_refl _) hw3
        obtain ⟨u, hu⟩ := pt_ptr (w'.heap.size + 2) (atOf (dq f i) i)
        rw [hu] at hc8 hq1
        have H8 := hideB hc8
        have HF := hideB hf
        have HU := hideB hu
        clear hI hw2 hw3 hc8 hf hu
        have hq2 : (w2.setCell ⟨w'.heap.size + 1, i, .none⟩ (P1 (w'.heap.size + 2 + i))).cell? ⟨w'.heap.size, 1, .none⟩ = some (.pointer u) := by
          rw [World.cell?_setCell_other _ _ _ _ (by simp), hq1]
        go_wp2_with fail
        refine (last_of _ (.pointer u) _ ?_).mono ?_
        · exact hq2
        rintro e w3 ⟨rfl, rfl⟩
        go_wp2_with fail
        refine (unhideB H8).mono ?_
        clear H8
        rintro e w3 ⟨rfl, hI3⟩
        have hl := dq_len f i
        rw [show (dq f i).insertIdx i i = dq f (i + 1) from by rw [dq_back f i (unhideB HF), hl]] at hI3
        have A3 := hideB hI3
        clear hI3 hci hn1 hn2 hb1 A hsz hl hq1 hq2
        go_wp2_with fail
        go_roundg (len + 1 - (i + 1))
        case measure => omega
        case rel => exact ⟨i + 1, _, rfl, by omega, by go_num, unhideB A3⟩
    · obtain rfl : i = len := by omega
      have A : Hid (InvD w' wr i i (dq f i) s) := hI
      clear hI hmk1
      go_wp2_with fail
      have hI := A.out
      have hsz := hI.size
      have hfin := fin_start hI
      have hL := hI.len
      have hlt := hI.lt
      have hrep := hI.rep
      clear hI A
      rw [hsz]
      generalize wr.alloc (Obj.cells (madeCells #[Value.int IntKind.u64 0] i) 30) = W1 at hfin ⊢
      clear hsz hmk2
      have HR : Hid ((dq f i).length = i ∧ (∀ p x, wat (dq f i) p = some x → x < i) ∧ Rep (dq f i) s) := ⟨hL, hlt, hrep⟩
      clear hL hlt hrep
      go_loopg [10, 11] (i + 1) (fun g v10 v11 wr => ∃ (j : Nat) (G : List Nat), j ≤ g ∧ j ≤ i ∧ v11 = .int .i64 ((j : Int) - 1) ∧ v10 = .int .i64 (G.length : Nat) ∧ Hid (fr f i = G ++ fr f j ∧ Fin2 w' wr i s G))
      case atStart => exact ⟨i, [], by omega, Nat.le_refl _, rfl, rfl, rfl, hfin⟩
      case round =>
        obtain ⟨j, G, hjg, hji, rfl, rfl, HF⟩ := hrel
        clear hfin
        by_cases hj : 0 < j
        · obtain ⟨b, off, rfl, hb, hc⟩ := Ho.out (j - 1) (by omega)
          have hci : wr.cell? ⟨b, off + (j - 1), .none⟩ = some (.bool (f (j - 1))) := (HF.out.2.bel.cell hb).trans hc
          have hfr : fr f j = if f (j - 1) then (j - 1) :: fr f (j - 1) else fr f (j - 1) := by
            obtain ⟨j', rfl⟩ : ∃ j', j = j' + 1 := ⟨j - 1, by omega⟩
            rfl
          cases hf : f (j - 1) with
          | true =>
            rw [hf] at hci hfr
            have hGl : G.length < i := by
              have h1 := HF.out.1
              have h2 := fr_le f i
              rw [h1, hfr] at h2
              simp at h2
              omega
            have hnew : Hid (fr f i = (G ++ [j - 1]) ++ fr f (j - 1) ∧ Fin2 w' (wr.setCell ⟨w'.heap.size + 2 + i, G.length, .none⟩ (.int .u64 (((j - 1 : Nat) : Int) + 1))) i s (G ++ [j - 1])) := by
              refine ⟨?_, fin_step HF.out.2 (j - 1)⟩
              rw [HF.out.1, hfr]; simp
            have c2 := HF.out.2.want.cell hGl
            have c3 := HF.out.2.want.frozen G.length
            have hwrap : IntKind.u64.wrap ((j : Int) - 1) = (j : Int) - 1 := by rw [IntKind.wrap_u64]; omega
            have hwrap2 : IntKind.u64.wrap (j : Int) = (j : Int) := by rw [IntKind.wrap_u64]; omega
            rw [show ((j - 1 : Nat) : Int) + 1 = (j : Int) from by omega] at hnew
            clear hfr hf hc HF
            go_wp2_with fail
            go_roundg (j - 1)
            case measure => omega
            case rel => exact ⟨j - 1, G ++ [j - 1], Nat.le_refl _, by omega, by go_num, by simp, hnew⟩
          | false =>
            rw [hf] at hci hfr
            have hnew : Hid (fr f i = G ++ fr f (j - 1) ∧ Fin2 w' wr i s G) := ⟨by rw [HF.out.1, hfr]; simp, HF.out.2⟩
            clear hfr hf hc HF
            go_wp2_with fail
            go_roundg (j - 1)
            case measure => omega
            case rel => exact ⟨j - 1, G, Nat.le_refl _, by omega, by go_num, rfl, hnew⟩
        · have H2 : Hid (fr f i = G ∧ Fin2 w' wr i s G) := by
            obtain rfl : j = 0 := by omega
            exact ⟨by rw [HF.out.1]; simp [fr], HF.out.2⟩
          clear HF
          generalize hwd : wr = Wd at H2 ⊢
          clear hwd
          go_wp2_with fail
          go_loopg [10, 12] (i + 1) (fun g v10 v12 wr => ∃ (j : Nat) (G : List Nat), g = i + 1 - j ∧ j ≤ i ∧ v12 = .int .i64 (j : Int) ∧ v10 = .int .i64 (G.length : Nat) ∧ Hid (G = fr f i ++ bk f j ∧ Fin2 w' wr i s G))
          case atStart => exact ⟨0, G, rfl, Nat.zero_le _, rfl, rfl, by rw [← H2.out.1]; simp [bk], H2.out.2⟩
          case round =>
            obtain ⟨m, G2, rfl, hmi, rfl, rfl, HF⟩ := hrel
            clear H2
            by_cases hm : m < i
            · obtain ⟨b, off, rfl, hb, hc⟩ := Ho.out m (by omega)
              have hci : wr.cell? ⟨b, off + m, .none⟩ = some (.bool (f m)) := (HF.out.2.bel.cell hb).trans hc
              have hbk : bk f (m + 1) = if f m then bk f m else bk f m ++ [m] := rfl
              cases hf : f m with
              | false =>
                rw [hf] at hci hbk
                have hGl : G2.length < i := by
                  have h2 := fr_le f i
                  have h3 := bk_mono f (m + 1) i (by omega)
                  rw [hbk] at h3
                  rw [HF.out.1]
                  simp at h3 ⊢
                  omega
                have hnew : Hid (G2 ++ [m] = fr f i ++ bk f (m + 1) ∧ Fin2 w' (wr.setCell ⟨w'.heap.size + 2 + i, G2.length, .none⟩ (.int .u64 ((m : Int) + 1))) i s (G2 ++ [m])) := by
                  refine ⟨?_, fin_step HF.out.2 m⟩
                  rw [hbk, HF.out.1]; simp
                have c2 := HF.out.2.want.cell hGl
                have c3 := HF.out.2.want.frozen G2.length
                have hwrap : IntKind.u64.wrap (m : Int) = (m : Int) := by rw [IntKind.wrap_u64]; omega
                clear hbk hf hc HF
                go_wp2_with fail
                go_roundg (i + 1 - (m + 1))
                case measure => omega
                case rel => exact ⟨m + 1, G2 ++ [m], rfl, by omega, by go_num, by simp, hnew⟩
              | true =>
                rw [hf] at hci hbk
                have hnew : Hid (G2 = fr f i ++ bk f (m + 1) ∧ Fin2 w' wr i s G2) := ⟨by rw [hbk, HF.out.1]; simp, HF.out.2⟩
                clear hbk hf hc HF
                go_wp2_with fail
                go_roundg (i + 1 - (m + 1))
                case measure => omega
                case rel => exact ⟨m + 1, G2, rfl, by omega, by go_num, rfl, hnew⟩
            · obtain rfl : m = i := by omega
              go_wp2_with fail
              obtain ⟨hL, hlt, hrep⟩ := HR.out
              obtain ⟨hG, hF⟩ := HF.out
              have hG' : G2 = dq f m := hG
              rw [hG'] at hF
              refine (isQ w'.heap.size (w'.heap.size + 2) (w'.heap.size + 1) (w'.heap.size + 2 + m) m (dq f m) s _ (by omega) hL hlt hrep hF.mem hF.nodes hF.want).mono ?_
              rintro e w1 ⟨rfl, mm, hw1⟩
              have hb : Below w'.heap.size w' w1 := by
                subst hw1
                exact hF.bel.trans ⟨rfl, rfl, rfl, Nat.le_refl _, fun _ _ => rfl⟩
              clear hF hG hG' hL hlt hrep hw1
              go_wp2_with fail
              go_ret
              exact ⟨rfl, hb⟩

end Go.Proofs.Qxb6613936a
