import Derived.Test.Qxb6614206aDefs
set_option linter.unusedVariables false
set_option linter.unusedSimpArgs false
namespace Go.Proofs.Qxb6614206a
open Go.RowKit

set_option maxRecDepth 100000 in
set_option maxHeartbeats 4000000 in
theorem split_main (a : Option Addr) (cap : Nat) (k : Nat) (j : Int) (id : ByteArray) (l : List Ed) (w : World) (hl : l.length ≤ 65536) (hE : EL w a l) (hS : Sz l) (s0 : id.size ≤ maxLen) (s1 : id.size ≤ 65536) (hk : k ≤ l.length) :
    Calls Try.prog 4 #[.slice a l.length cap, .string id, .int .i64 k, .int .i64 j] w fun e w' => e = .returned (.bool true) ∧ Below w.heap.size w w' := by
  have HE := hide hE
  have HS := hide hS
  clear hE hS
  generalize hn : l.length = n at hl hk ⊢
  have HN := hide hn
  clear hn
  go_enter Try.func4, Try.ntmps4
  go_wp2_with fail
  have hb := bytes10_any a cap k j id l w (by rw [HN.out]; omega) HE.out HS.out s0
  rw [HN.out] at hb
  refine hb.mono ?_
  clear hb
  rintro e w' ⟨⟨r, rfl⟩, rfl⟩
  clear s0
  cases r with
  | false =>
    go_wp2_with fail
    go_ret
    exact ⟨rfl, Below.refl _ _⟩
  | true =>
    go_wp2_with fail
    have hb := over_any a cap id.size 1048576 l w' (by rw [HN.out]; omega) HE.out HS.out
    rw [HN.out] at hb
    refine hb.mono ?_
    clear hb
    rintro e w1 ⟨⟨r, rfl⟩, rfl⟩
    cases r with
    | true =>
      go_wp2_with fail
      go_ret
      exact ⟨rfl, Below.refl _ _⟩
    | false =>
      go_wp2_with fail
      have hb := toEdges a cap l w1 (by rw [HN.out]; omega) HE.out
      rw [HN.out] at hb
      refine hb.mono ?_
      clear hb
      rintro e w2 ⟨rfl, hA, hB2⟩
      have H2 := hide (And.intro hA hB2)
      clear hA hB2
      have hs1 := slice_to (some ⟨w1.heap.size, 0, .none⟩) n n k hk
      have hs2 := slice_from (some ⟨w1.heap.size, 0, .none⟩) n n k hk
      go_wp2_with fail
      clear hs1 hs2
      obtain ⟨d1, d2, d3, hB3⟩ := defs3 w2 (Value.slice (some { block := w1.heap.size, off := 0 }) n n) (Value.slice (some { block := w1.heap.size, off := 0 }) k n) (Value.slice (cutA (some { block := w1.heap.size, off := 0 }) k n) (n - k) (n - k))
      have hA3 := (unhide H2).1.mono hB3
      have hB13 := (unhide H2).2.trans (hB3.mono (unhide H2).2.size)
      have hb := outgoing' (some ⟨w1.heap.size, 0, .none⟩) n id l _ (by rw [HN.out]; omega) hA3
      rw [HN.out] at hb
      refine hb.mono ?_
      clear hb
      rintro e w4 ⟨ad1, p1, rfl, e1, f1, g1, i1, j1, k1, hB4⟩
      have H4 := hide (And.intro (d1.mono hB4) (And.intro (d2.mono hB4) (And.intro (d3.mono hB4) (And.intro (hA3.mono hB4) (hB13.trans (hB4.mono hB13.size))))))
      have HW1 := hide (And.intro e1 (And.intro f1 (And.intro g1 (And.intro i1 (And.intro j1 k1)))))
      have hd2 := d2.mono hB4
      obtain ⟨x0, x1, x2⟩ := hd2
      clear d1 d2 d3 hB3 hA3 hB13 hB4 e1 f1 g1 i1 j1 k1 x2 H2
      go_wp2_with fail
      clear x0 x1
      -- left
      have hb := outgoing' (some ⟨w1.heap.size, 0, .none⟩) n id (l.take k) w4 (by rw [List.length_take, HN.out]; omega) ((unhide H4).2.2.2.1.take k)
      rw [List.length_take, HN.out, Nat.min_eq_left hk] at hb
      refine hb.mono ?_
      clear hb
      rintro e w5 ⟨ad2, p2, rfl, e2, f2, g2, i2, j2, k2, hB5⟩
      obtain ⟨d1, d2, d3, hA4, hB14⟩ := unhide H4
      have H5 := hide (And.intro (d1.mono hB5) (And.intro (d3.mono hB5) (And.intro (hA4.mono hB5) (hB14.trans (hB5.mono hB14.size)))))
      have HW15 := hide (And.intro ((unhide HW1).1.mono hB5) (unhide HW1).2)
      have HW2 := hide (And.intro e2 (And.intro f2 (And.intro g2 (And.intro i2 (And.intro j2 k2)))))
      obtain ⟨x0, x1, x2⟩ := d3.mono hB5
      clear d1 d2 d3 hB5 hA4 hB14 e2 f2 g2 i2 j2 k2 x2 H4 HW1
      go_wp2_with fail
      clear x0 x1
      -- right
      have hb := outgoing' (cutA (some ⟨w1.heap.size, 0, .none⟩) k n) (n - k) id (l.drop k) w5 (by rw [List.length_drop, HN.out]; omega) ((unhide H5).2.2.1.cut (by rw [HN.out]; exact Nat.le_refl _) k)
      rw [List.length_drop, HN.out] at hb
      refine hb.mono ?_
      clear hb
      rintro e w6 ⟨ad3, p3, rfl, e3, f3, g3, i3, j3, k3, hB6⟩
      obtain ⟨d1, d3, hA5, hB15⟩ := unhide H5
      have H6 := hide (And.intro (d1.mono hB6) (And.intro (hA5.mono hB6) (hB15.trans (hB6.mono hB15.size))))
      have HW16 := hide (And.intro ((unhide HW15).1.mono hB6) (unhide HW15).2)
      have HW26 := hide (And.intro ((unhide HW2).1.mono hB6) (unhide HW2).2)
      have HW3 := hide (And.intro e3 (And.intro f3 (And.intro g3 (And.intro i3 (And.intro j3 k3)))))
      have hO1 := out_len id (l.take k)
      have hO2 := out_len id (l.drop k)
      rw [List.length_take, HN.out] at hO1
      rw [List.length_drop, HN.out] at hO2
      clear d1 d3 hB6 hA5 hB15 e3 f3 g3 i3 j3 k3 H5 HW15 HW2
      have hLR := out_split id l k
      have hO0 := out_len id l
      rw [HN.out] at hO0
      generalize outE id (l.take k) = L at HW26 hO1 hLR ⊢
      generalize outE id (l.drop k) = R at HW3 hO2 hLR ⊢
      generalize outE id l = O at HW16 hO0 hLR ⊢
      have HLR := hide hLR
      clear hLR
      have hO1' : L.length ≤ 65536 := by omega
      have hO2' : R.length ≤ 65536 := by omega
      clear hO1 hO2
      go_wp2_with (first
        | (at_make; refine wpList_mk _ rfl _ _ rfl _ (L.length + R.length) rfl rfl (by simp) (by omega) ?_; intro w7 ho7 hb7; have H7 := hide (And.intro ho7 hb7); clear ho7 hb7)
        | (at_builtin; refine wpList_app _ rfl (.tmp 74) (.tmp 75) rfl w6.heap.size _ [] L ad2 p2 rfl rfl (unhide H7).1 ((unhide HW26).1.mono (unhide H7).2) (unhide HW26).2.1 (unhide HW26).2.2.1 (by simp; omega) (unhide H7).2.size ?_; intro v8 w8 ho8 hg8; have H8 := hide (And.intro ho8 (Below.growne (unhide H7).2 (unhide H7).1 (Nat.le_refl _) hg8 (unhide H7).2.size)); clear ho8 hg8)
        | (at_builtin; refine wpList_app _ rfl (.tmp 77) (.tmp 78) rfl w6.heap.size _ ([] ++ L) R ad3 p3 rfl rfl (unhide H8).1 ((unhide HW3).1.mono (unhide H8).2) (unhide HW3).2.1 (unhide HW3).2.2.1 (by simp; omega) (unhide H8).2.size ?_; intro v9 w9 ho9 hg9; have H9 := hide (And.intro ho9 (Below.growne (unhide H8).2 (unhide H8).1 (Nat.le_refl _) hg9 (unhide H8).2.size)); clear ho9 hg9))
      clear H7 H8
      obtain ⟨ho9, hb9⟩ := unhide H9
      rw [List.nil_append, HLR.out] at ho9
      refine (same_v ad1 p1 _ v9 O w9 (by omega) ((unhide HW16).1.mono hb9) ho9).mono ?_
      rintro e w10 ⟨rfl, hb10⟩
      obtain ⟨d1, hA6, hB16⟩ := unhide H6
      have hb610 := hb9.trans (hb10.mono hb9.size)
      have H10 := hide (And.intro (d1.mono hb610) (And.intro (hA6.mono hb610) (hB16.trans (hb610.mono hB16.size))))
      clear ho9 hb9 hb10 d1 hA6 hB16 hb610 H9 H6 HW16 HW26 HW3 HLR hO0 hO1' hO2'
      rcases (show j < 0 ∨ (0 ≤ j ∧ (n : Int) ≤ j) ∨ (0 ≤ j ∧ j < (n : Int)) by omega) with hj | ⟨hj, hj2⟩ | ⟨hj, hj2⟩
      · go_wp2_with fail
        go_ret
        exact ⟨rfl, (unhide H10).2.2⟩
      · go_wp2_with fail
        go_ret
        exact ⟨rfl, (unhide H10).2.2⟩
      · obtain ⟨jn, rfl⟩ := Int.eq_ofNat_of_zero_le hj
        have hjn : jn < n := by omega
        obtain ⟨e, he⟩ := at_some l jn (by rw [HN.out]; exact hjn)
        obtain ⟨b1, off1, hab, _, c0, c1, c2, c3⟩ := (unhide H10).2.1 jn e he
        simp only [Option.some.injEq, Addr.mk.injEq] at hab
        obtain ⟨rfl, rfl, _⟩ := hab
        rw [Nat.zero_add] at c0 c1 c2 c3
        obtain ⟨x0, x1, x2⟩ := (unhide H10).1
        have hs1 := slice_to (some ⟨w1.heap.size, 0, .none⟩) n n jn (by omega)
        have HE2 := hide he
        clear he c0 c2 c3
        go_wp2_with fail
        clear hs1 c1 x0 x1 x2
        have hBa := below_alloc w10 (Obj.cells #[Value.slice .none 0 0, Value.slice (some { block := w1.heap.size, off := 0 }) jn n] 31)
        have dJ := DefAt.new w10 w10.heap.size (Value.slice (some { block := w1.heap.size, off := 0 }) jn n) rfl
        have hb := outgoing' (some ⟨w1.heap.size, 0, .none⟩) n e.src l _ (by rw [HN.out]; omega) ((unhide H10).2.1.mono hBa)
        rw [HN.out] at hb
        refine hb.mono ?_
        clear hb
        rintro e' w12 ⟨ad4, p4, rfl, e4, f4, g4, i4, j4, k4, hB12⟩
        have hB1 := hBa.trans (hB12.mono hBa.size)
        have H12 := hide (And.intro e4 (And.intro ((unhide H10).2.1.mono hB1) ((unhide H10).2.2.trans (hB1.mono (unhide H10).2.2.size))))
        obtain ⟨x0, x1, x2⟩ := dJ.mono hB12
        clear dJ hBa hB12 hB1 H10 e4 f4 g4 i4 j4 k4 x2
        go_wp2_with fail
        clear x0 x1
        have hb := outgoing' (some ⟨w1.heap.size, 0, .none⟩) n e.src (l.take jn) w12 (by rw [List.length_take, HN.out]; omega) ((unhide H12).2.1.take jn)
        rw [List.length_take, HN.out, Nat.min_eq_left (by omega)] at hb
        refine hb.mono ?_
        clear hb
        rintro e' w13 ⟨ad5, p5, rfl, e5, f5, g5, i5, j5, k5, hB13⟩
        obtain ⟨q1, q2, q3⟩ := unhide H12
        have HB := hide (q3.trans (hB13.mono q3.size))
        have hpl := out_place l jn e (unhide HE2)
        obtain ⟨b4, off4, rfl, _, c0, c1, c2, c3⟩ := q1.mono hB13 _ e hpl
        obtain ⟨b1, off1, hab, _, y0, y1, y2, y3⟩ := q2.mono hB13 jn e (unhide HE2)
        simp only [Option.some.injEq, Addr.mk.injEq] at hab
        obtain ⟨rfl, rfl, _⟩ := hab
        rw [Nat.zero_add] at y0 y1 y2 y3
        have hlt : (outE e.src (l.take jn)).length < (outE e.src l).length := by
          rcases Nat.lt_or_ge (outE e.src (l.take jn)).length (outE e.src l).length with h | h
          · exact h
          · rw [List.getElem?_eq_none h] at hpl; cases hpl
        have hO0 := out_len e.src l
        rw [HN.out] at hO0
        generalize (outE e.src (l.take jn)).length = P at hlt c0 c1 c2 c3 ⊢
        generalize (outE e.src l).length = Q at hlt hO0 ⊢
        clear hpl H12 q1 q2 q3 hB13 e5 f5 g5 i5 j5 k5 HE2
        have hlt2 : (P : Int) < (Q : Int) := by omega
        have hjn2 : (jn : Int) < (n : Int) := by omega
        go_wp2_with fail
        go_quiet (fail)
        go_wp2_with fail
        go_ret
        exact ⟨rfl, (unhide HB).trans ⟨rfl, rfl, rfl, Nat.le_refl _, fun _ _ => rfl⟩⟩

end Go.Proofs.Qxb6614206a
