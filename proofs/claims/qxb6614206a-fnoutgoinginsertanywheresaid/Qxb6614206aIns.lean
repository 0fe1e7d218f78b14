import Derived.Test.Qxb6614206aDefs
set_option linter.unusedVariables false
set_option linter.unusedSimpArgs false
namespace Go.Proofs.Qxb6614206a
open Go.RowKit

/-- The edge's own block. -/
def EdAt (W : World) (d : Nat) (e : Ed) : Prop := d < W.heap.size ∧ W.cell? ⟨d, 0, .none⟩ = some (.string e.id) ∧ W.cell? ⟨d, 1, .none⟩ = some (.string e.src) ∧ W.cell? ⟨d, 2, .none⟩ = some (.string e.dst) ∧ W.cell? ⟨d, 3, .none⟩ = some (.bool e.err)

theorem EdAt.mono {W W' : World} {d : Nat} {e : Ed} (h : EdAt W d e) (hB : Below W.heap.size W W') : EdAt W' d e :=
  ⟨Nat.lt_of_lt_of_le h.1 hB.size, (hB.cell h.1).trans h.2.1, (hB.cell h.1).trans h.2.2.1, (hB.cell h.1).trans h.2.2.2.1, (hB.cell h.1).trans h.2.2.2.2⟩

theorem EdAt.new (W : World) (e : Ed) : EdAt (W.alloc (.cells #[.string e.id, .string e.src, .string e.dst, .bool e.err] 28)) W.heap.size e := by
  refine ⟨by simp, ?_, ?_, ?_, ?_⟩ <;> simp

theorem out_ins (id : ByteArray) (l : List Ed) (k : Nat) (e : Ed) : outE id (l.take k ++ [e] ++ l.drop k) = outE id (l.take k) ++ (if leaves id e then [e] else []) ++ outE id (l.drop k) := by
  unfold outE
  rw [List.filter_append, List.filter_append]
  simp only [List.filter_cons, List.filter_nil]

theorem out_take (id : ByteArray) (l : List Ed) (k : Nat) : (outE id l).take (outE id (l.take k)).length = outE id (l.take k) := by
  rw [← out_split id l k, List.take_left']
  rfl

theorem out_drop (id : ByteArray) (l : List Ed) (k : Nat) : (outE id l).drop (outE id (l.take k)).length = outE id (l.drop k) := by
  rw [← out_split id l k, List.drop_left']
  rfl

theorem EdAt.mono' {W W' : World} {d B : Nat} {e : Ed} (h : EdAt W d e) (hB : Below B W W') (hw : W.heap.size = B) : EdAt W' d e := by
  subst hw; exact h.mono hB

theorem EL.mono' {W W' : World} {a : Option Addr} {l : List Ed} {B : Nat} (h : EL W a l) (hB : Below B W W') (hw : W.heap.size = B) : EL W' a l := by
  subst hw; exact h.mono hB

/-- 'append(s, x...)' at the operation, the source's length apart. -/
theorem wpList_app' (w : World) {ops : Array Oper} {rest : List Oper} {o : Oper} {a : Act} {Q : Exit → Act → World → Prop} (hgd : o.guard = .none) (s x : Operand)
    (ho : o.op = .call { callee := .builtin .append, args := #[s, x], argTypes := #[25, 25] }) (base : Nat) (v : Value) (l1 l2 : List Ed) (ad : Option Addr) (c m : Nat) (hs : a.eval s = v) (hx : a.eval x = .slice ad m c) (hm : m = l2.length)
    (hown : Own w base v l1) (hsrc : EL w ad l2) (hpl : ad = .none ∨ ∃ b off, ad = some ⟨b, off, .none⟩) (hnil : ad = .none → l2 = []) (hlen : l1.length + l2.length ≤ 1048576) (hbase : base ≤ w.heap.size)
    (hK : ∀ v' w', Own w' base v' (l1 ++ l2) → w.grownBy w' v.ownBlock → wpList Try.prog ops Q rest (a.put o.dst v') w') : wpList Try.prog ops Q (o :: rest) a w := by
  subst hm
  exact wpList_app w hgd s x ho base v l1 l2 ad c hs hx hown hsrc hpl hnil hlen hbase hK

set_option maxRecDepth 100000 in
set_option maxHeartbeats 4000000 in
theorem ins_main (a : Option Addr) (cap : Nat) (k : Nat) (id x1 x2 x3 : ByteArray) (q : Bool) (l : List Ed) (w : World) (hl : l.length ≤ 65536) (hE : EL w a l) (hS : Sz l) (s0 : id.size ≤ 65536) (s1 : x1.size ≤ 65536) (s2 : x2.size ≤ 65536) (s3 : x3.size ≤ 65536) (hk : k ≤ l.length) :
    Calls Try.prog 3 #[.slice a l.length cap, .string id, .int .i64 k, .string x1, .string x2, .string x3, .bool q] w fun e w' => e = .returned (.bool true) ∧ Below w.heap.size w w' := by
  have HE := hide hE
  have HS := hide hS
  clear hE hS
  have hb1 := bytes5_any a cap k 0 id x1 x2 x3 q l w (by omega) HE.out HS.out (by unfold maxLen; omega) (by unfold maxLen; omega) (by unfold maxLen; omega) (by unfold maxLen; omega)
  have hb2 := over_any a cap ((id.size : Int) + x1.size + x2.size + x3.size) 1048576 l w (by omega) HE.out HS.out
  generalize hn : l.length = n at hl hk hb1 hb2 ⊢
  have HN := hide hn
  have HB1 := hide hb1
  have HB2 := hide hb2
  clear hn hb1 hb2
  go_enter Try.func3, Try.ntmps3
  go_wp2_with fail
  refine (unhide HB1).mono ?_
  rintro e w' ⟨⟨r, rfl⟩, rfl⟩
  clear HB1
  cases r with
  | false =>
    go_wp2_with fail
    go_ret
    exact ⟨rfl, Below.refl _ _⟩
  | true =>
    go_wp2_with fail
    refine (unhide HB2).mono ?_
    rintro e w1 ⟨⟨r, rfl⟩, rfl⟩
    clear HB2
    cases r with
    | true =>
      go_wp2_with fail
      go_ret
      exact ⟨rfl, Below.refl _ _⟩
    | false =>
      go_wp2_with fail
      have hb := toEdges a cap l w1 (by rw [HN.out]; omega) HE.out
      rw [HN.out] at hb
      refine hb.mono ?_
      clear hb
      rintro e w2 ⟨rfl, hA, hB2⟩
      have hs1 := slice_to (some ⟨w1.heap.size, 0, .none⟩) n n k hk
      have hs2 := slice_from (some ⟨w1.heap.size, 0, .none⟩) n n k hk
      have hba := below_alloc w2 (.cells #[.string x1, .string x2, .string x3, .bool q] 28)
      have HX := hide (And.intro (EdAt.new w2 (Ed.mk x1 x2 x3 q)) (And.intro (hA.mono hba) (hB2.trans (hba.mono hB2.size))))
      clear hA hB2 hba
      have hlt : (l.take k).length = k := by rw [List.length_take, HN.out]; omega
      have hld : (l.drop k).length = n - k := by rw [List.length_drop, HN.out]
      have HL := hide (And.intro hlt hld)
      clear hlt hld
      go_wp2_with (first
        | (at_make; refine wpList_mk _ rfl _ _ rfl _ (n + 1) rfl rfl (by simp) (by omega) ?_; intro w4 ho4 hb4; simp only [World.size_alloc] at ho4 hb4; have H4 := hide (And.intro ho4 hb4); clear ho4 hb4)
        | (at_builtin; refine wpList_app' _ rfl (.tmp 89) (.tmp 92) rfl (w2.heap.size + 1) _ [] (l.take k) _ _ k rfl rfl (unhide HL).1.symm (unhide H4).1 (((unhide HX).2.1.mono' (unhide H4).2 (by simp)).take k) (.inr ⟨_, _, rfl⟩) (fun h => by cases h) (by rw [(unhide HL).1]; simp; omega) (by have := (unhide H4).2.size; simpa using this) ?_; intro v5 w5 ho5 hg5; have H5 := hide (And.intro ho5 (Below.growne (unhide H4).2 (unhide H4).1 (Nat.le_refl _) hg5 (by have := (unhide H4).2.size; simpa using this))); obtain ⟨_, y0, y1, y2, y3⟩ := (unhide HX).1.mono' (unhide H5).2 (by simp); clear ho5 hg5)
        | (at_builtin; refine wpList_app' _ rfl (.tmp 94) (.tmp 96) rfl (w2.heap.size + 1) _ ([] ++ l.take k) [(Ed.mk x1 x2 x3 q)] _ _ 1 rfl rfl rfl ((unhide H5).1.alloc _) (EL.one' _ _ (by simp) (Ed.mk x1 x2 x3 q)) (.inr ⟨_, _, rfl⟩) (fun h => by cases h) (by rw [List.nil_append, (unhide HL).1]; simp; omega) (by have := (unhide H5).2.size; simp at this ⊢; omega) ?_; intro v6 w6 ho6 hg6; have H6 := hide (And.intro ho6 (Below.growne ((unhide H5).2.alloc (by have := (unhide H5).2.size; simpa using this) _) ((unhide H5).1.alloc _) (Nat.le_refl _) hg6 (by have := (unhide H5).2.size; simp at this ⊢; omega))); clear ho6 hg6)
        | (at_builtin; refine wpList_app' _ rfl (.tmp 98) (.tmp 101) rfl (w2.heap.size + 1) _ ([] ++ l.take k ++ [(Ed.mk x1 x2 x3 q)]) (l.drop k) _ _ (n - k) rfl rfl (unhide HL).2.symm (unhide H6).1 (((unhide HX).2.1.mono' (unhide H6).2 (by simp)).cut (by rw [HN.out]; exact Nat.le_refl _) k) (cut_plain (.inr ⟨_, _, rfl⟩)) (fun h => cut_nil (fun h => by cases h) h) (by rw [List.nil_append, List.length_append, (unhide HL).1, (unhide HL).2]; simp; omega) (by have := (unhide H6).2.size; simpa using this) ?_; intro v7 w7 ho7 hg7; have hB7 := Below.growne (unhide H6).2 (unhide H6).1 (Nat.le_refl _) hg7 (by have := (unhide H6).2.size; simpa using this); rw [List.nil_append] at ho7; generalize hIL : l.take k ++ [Ed.mk x1 x2 x3 q] ++ l.drop k = IL at ho7; have HIL := hide hIL; clear hIL; obtain ⟨ad7, c7, rfl, q1, q2, q3, q4, q5, q6⟩ := ho7.form; have H7 := hide (And.intro q1 hB7); clear q1 q2 q3 q4 q5 q6 ho7 hg7 hB7))
      clear H4 H5 H6 y0 y1 y2 y3 hs1 hs2
      have hILn : Hid (IL.length = n + 1) := hide (by rw [← HIL.out, List.length_append, List.length_append, (unhide HL).1, (unhide HL).2]; simp; omega)
      obtain ⟨d1, d2, d3, hB8⟩ := defs3 w7 (Value.slice (some { block := w1.heap.size, off := 0 }) n n) (Value.slice (some { block := w1.heap.size, off := 0 }) k n) (Value.slice ad7 IL.length c7)
      obtain ⟨t1, t2, t3⟩ := unhide HX
      have tB := (unhide H7).2
      have hA8 := (t2.mono' tB (by simp)).mono hB8
      have hE8 := (t1.mono' tB (by simp)).mono hB8
      have hI8 := (unhide H7).1.mono hB8
      have hB18 := (t3.trans (tB.mono (by have := t3.size; simpa using this))).trans (hB8.mono (by have h1 := t3.size; have h2 := tB.size; simp at h1 h2; omega))
      have hb := outgoing' (some ⟨w1.heap.size, 0, .none⟩) n id l _ (by rw [HN.out]; omega) hA8
      rw [HN.out] at hb
      refine hb.mono ?_
      clear hb
      rintro e w9 ⟨ad1, p1, rfl, e1, f1, g1, i1, j1, k1, hB9⟩
      have H9 := hide (And.intro (d3.mono hB9) (And.intro (hI8.mono hB9) (And.intro (hA8.mono hB9) (And.intro (hE8.mono hB9) (hB18.trans (hB9.mono hB18.size))))))
      have HW1 := hide (And.intro e1 (And.intro f1 (And.intro g1 (And.intro i1 (And.intro j1 k1)))))
      obtain ⟨z0, z1, z2⟩ := d2.mono hB9
      clear d1 d2 d3 hB8 t1 t2 t3 tB hA8 hE8 hI8 hB18 e1 f1 g1 i1 j1 k1 hB9 z2 HX H7
      go_wp2_with fail
      clear z0 z1
      have hb := outgoing' (some ⟨w1.heap.size, 0, .none⟩) n id (l.take k) w9 (by rw [List.length_take, HN.out]; omega) ((unhide H9).2.2.1.take k)
      rw [List.length_take, HN.out, Nat.min_eq_left hk] at hb
      refine hb.mono ?_
      clear hb
      rintro e w10 ⟨ad2, p2, rfl, e2, f2, g2, i2, j2, k2, hB10⟩
      obtain ⟨d3, hI9, hA9, hE9, hB19⟩ := unhide H9
      have H10 := hide (And.intro (hI9.mono hB10) (And.intro (hE9.mono hB10) (hB19.trans (hB10.mono hB19.size))))
      have HW10 := hide (And.intro ((unhide HW1).1.mono hB10) (unhide HW1).2)
      obtain ⟨z0, z1, z2⟩ := d3.mono hB10
      clear d3 hI9 hA9 hE9 hB19 hB10 e2 f2 g2 i2 j2 k2 z2 H9 HW1
      go_wp2_with fail
      clear z0 z1
      have hb := outgoing' ad7 c7 id IL w10 (by rw [hILn.out]; omega) (unhide H10).1
      refine hb.mono ?_
      clear hb
      rintro e w11 ⟨ad3, p3, rfl, e3, f3, g3, i3, j3, k3, hB11⟩
      obtain ⟨hI10, hE10, hB110⟩ := unhide H10
      have H11 := hide (And.intro (hE10.mono hB11) (hB110.trans (hB11.mono hB110.size)))
      have HW11 := hide (And.intro ((unhide HW10).1.mono hB11) (unhide HW10).2)
      have HG := hide e3
      have hins := out_ins id l k (Ed.mk x1 x2 x3 q)
      rw [HIL.out] at hins
      have hsp := out_split id l k
      have htk := out_take id l k
      have hdr := out_drop id l k
      have hO0 := out_len id l
      have hO1 := out_len id (l.take k)
      rw [HN.out] at hO0
      rw [(unhide HL).1] at hO1
      have hO3 : (outE id (l.take k)).length ≤ (outE id l).length := by rw [← hsp]; simp
      clear hI10 hE10 hB110 hB11 e3 f3 g3 i3 j3 k3 H10 HW10 HE HS
      generalize outE id (l.take k) = P at hins hsp htk hdr hO1 hO3 ⊢
      generalize outE id (l.drop k) = R at hins hsp hdr ⊢
      generalize outE id l = O at hsp htk hdr hO0 hO3 HW11 ⊢
      generalize outE id IL = G at hins HG ⊢
      clear HIL hILn HL
      cases hlv : leaves id (Ed.mk x1 x2 x3 q) with
      | false =>
        have hq : (x2.toList == id.toList) = false := hlv
        rw [hlv, if_neg (by simp), List.append_nil, hsp] at hins
        subst hins
        clear hlv hsp htk hdr
        go_wp2_with fail
        refine (same ad3 ad1 p3 p1 G _ (by omega) HG.out (unhide HW11).1).mono ?_
        rintro e w12 ⟨rfl, m, hw12⟩
        have HB := hide ((unhide H11).2.trans (show Below w1.heap.size w11 w12 from by rw [hw12]; exact ⟨rfl, rfl, rfl, Nat.le_refl _, fun _ _ => rfl⟩))
        clear hw12
        go_wp2_with fail
        go_ret
        exact ⟨rfl, unhide HB⟩
      | true =>
        have hq : (x2.toList == id.toList) = true := hlv
        rw [hlv, if_pos rfl] at hins
        obtain ⟨u1, u2, u3, u4, u5, u6⟩ := unhide HW11
        have hs3 := slice_to ad1 O.length p1 P.length (by omega)
        have hs4 := slice_from ad1 O.length p1 P.length hO3
        have hR2 := hide (And.intro hins (And.intro htk hdr))
        have hln : P.length + R.length = O.length := by rw [← hsp, List.length_append]
        have hnilP : Hid (ad1 = .none → P = []) := hide (fun h => by rw [← htk, u3 h]; simp)
        clear hlv hsp htk hdr hins u1 u2 u3 u5 u6
        go_wp2_with (first
          | (at_make; refine wpList_mk _ rfl _ _ rfl _ (O.length + 1) rfl rfl (by simp) (by omega) ?_; intro w12 ho12 hb12; have H12 := hide (And.intro ho12 hb12); clear ho12 hb12)
          | (at_builtin; refine wpList_app' _ rfl (.tmp 135) (.tmp 138) rfl w11.heap.size _ [] P _ _ P.length rfl rfl rfl (unhide H12).1 (by have := ((unhide HW11).1.mono (unhide H12).2).take P.length; rwa [(unhide hR2).2.1] at this) (unhide HW11).2.1 (unhide hnilP) (by simp; omega) (unhide H12).2.size ?_; intro v13 w13 ho13 hg13; have H13 := hide (And.intro ho13 (Below.growne (unhide H12).2 (unhide H12).1 (Nat.le_refl _) hg13 (unhide H12).2.size)); obtain ⟨_, y0, y1, y2, y3⟩ := (unhide H11).1.mono (unhide H13).2; clear ho13 hg13)
          | (at_builtin; refine wpList_app' _ rfl (.tmp 140) (.tmp 142) rfl w11.heap.size _ ([] ++ P) [Ed.mk x1 x2 x3 q] _ _ 1 rfl rfl rfl ((unhide H13).1.alloc _) (EL.one' _ _ rfl (Ed.mk x1 x2 x3 q)) (.inr ⟨_, _, rfl⟩) (fun h => by cases h) (by simp; omega) (by have := (unhide H13).2.size; simp at this ⊢; omega) ?_; intro v14 w14 ho14 hg14; have H14 := hide (And.intro ho14 (Below.growne ((unhide H13).2.alloc (unhide H13).2.size _) ((unhide H13).1.alloc _) (Nat.le_refl _) hg14 (by have := (unhide H13).2.size; simp at this ⊢; omega))); clear ho14 hg14)
          | (at_builtin; refine wpList_app' _ rfl (.tmp 144) (.tmp 147) rfl w11.heap.size _ ([] ++ P ++ [Ed.mk x1 x2 x3 q]) R _ _ (O.length - P.length) rfl rfl (by omega) (unhide H14).1 (by have := ((unhide HW11).1.mono (unhide H14).2).cut u4 P.length; rwa [(unhide hR2).2.2] at this) (cut_plain (unhide HW11).2.1) (fun h => by have := cut_nil (unhide HW11).2.2.1 h; rwa [(unhide hR2).2.2] at this) (by simp; omega) (unhide H14).2.size ?_; intro v15 w15 ho15 hg15; have H15 := hide (And.intro ho15 (Below.growne (unhide H14).2 (unhide H14).1 (Nat.le_refl _) hg15 (unhide H14).2.size)); clear ho15 hg15))
        obtain ⟨ho15, hb15⟩ := unhide H15
        rw [List.nil_append, ← (unhide hR2).1] at ho15
        have hGl : G.length ≤ 1048576 := by rw [(unhide hR2).1]; simp; omega
        refine (same_v ad3 p3 _ v15 G w15 hGl ((HG.out).mono hb15) ho15).mono ?_
        rintro e w16 ⟨rfl, hb16⟩
        have hb1 := hb15.trans (hb16.mono hb15.size)
        have HB := hide ((unhide H11).2.trans (hb1.mono (unhide H11).2.size))
        clear ho15 hb15 hb16 hb1 H15 H14 H13 H12 hs3 hs4 y0 y1 y2 y3
        go_wp2_with fail
        go_ret
        exact ⟨rfl, unhide HB⟩

end Go.Proofs.Qxb6614206a
