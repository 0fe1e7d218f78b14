import Derived.Test.Qxb6614206aFmtChk
set_option linter.unusedVariables false
set_option linter.unusedSimpArgs false
namespace Go.Proofs.Qxb6614206aFmt
open Go.RowKit

/-- The flags of the first ids. -/
def Ids (w : World) (m k : Nat) (l : List ByteArray) : Prop := ∃ L, FlagM w m k L ∧ ∀ s, s ∈ L ↔ s ∈ l

theorem Ids.of_block {w w' : World} {m k : Nat} {l : List ByteArray} (h : Ids w m k l) (e : w'.heap[m]? = w.heap[m]?) : Ids w' m k l := by
  obtain ⟨L, h1, h2⟩ := h
  exact ⟨L, h1.of_block e, h2⟩

theorem Ids.lt {w : World} {m k : Nat} {l : List ByteArray} (h : Ids w m k l) : m < w.heap.size := by
  obtain ⟨L, h1, h2⟩ := h
  exact h1.lt

theorem isIn_congr {s : ByteArray} {l l' : List ByteArray} (h : s ∈ l ↔ s ∈ l') : isIn s l = isIn s l' := by
  rw [Bool.eq_iff_iff, isIn_iff, isIn_iff, h]

theorem Ids.look {w : World} {m k : Nat} {l : List ByteArray} (h : Ids w m k l) (s : ByteArray) (hs : s.size ≤ maxLen) : (Instr.lookup 70 (.map (some m)) (.string s) false).run Tryf.prog w = .ok (.bool (isIn s l)) w := by
  obtain ⟨L, h1, h2⟩ := h
  rw [h1.look s hs, isIn_congr (h2 s)]

theorem Ids.on {w : World} {m k : Nat} {l : List ByteArray} (h : Ids w m k l) (s : ByteArray) (hs : s.size ≤ maxLen) (hc : k < maxLen) :
    ∃ w', (Instr.mapUpdate 70 (.map (some m)) (.string s) (.bool true)).run Tryf.prog w = .ok () w' ∧ Ids w' m (k + 1) (l ++ [s]) ∧ w.grownBy w' (some m) := by
  obtain ⟨L, h1, h2⟩ := h
  obtain ⟨w', r, h3, h4⟩ := h1.on s hs hc
  refine ⟨w', r, ⟨_, h3, fun t => ?_⟩, h4⟩
  simp only [List.mem_cons, List.mem_append, List.not_mem_nil, or_false]
  rw [h2 t]
  exact Or.comm

/-- 'm[k] = v' at the operation. -/
theorem wpList_up (w : World) {ops : Array Oper} {rest : List Oper} {o : Oper} {a : Act} {Q : Exit → Act → World → Prop} (hg : o.guard = .none) (m x v : Operand) (t : TypeId) (hop : o.op = Op.mapUpdate t m x v) (e : TypeId) (ht : Tryf.prog.underlying t = some (.map 9 e))
    (b n : Nat) (f : ByteArray → Option Value) (hm : a.eval m = .map (some b)) (hV : VM w b n f) (hn : n < maxLen) (key : ByteArray) (val : Value) (hx : a.eval x = .string key) (hv : a.eval v = val) (hs : key.size ≤ maxLen)
    (hK : ∀ w', VM w' b (n + 1) (upd f key val) → w.grownBy w' (some b) → wpList Tryf.prog ops Q rest (a.put o.dst undef) w') : wpList Tryf.prog ops Q (o :: rest) a w := by
  refine wpList_plain hg fun K' hK' => ?_
  obtain ⟨w', hrun, r1, r2⟩ := hV.update ht hn key hs val
  unfold Oper.wp
  simp [execOp, hop, hm, hx, hv, hrun, Result.andThen]
  exact hK' _ _ (hK w' r1 r2)

abbrev dbox (w : World) (na ea : Option Addr) (n nc m ec : Nat) : World := w.alloc (.cells #[.slice na n nc, .slice ea m ec] 30)

/-- What stands while check runs. -/
structure Ck (w wr : World) (na ea : Option Addr) (n nc m ec : Nat) : Prop where
  bel : Below (w.heap.size + 1) (dbox w na ea n nc m ec) wr

theorem Ck.below {w wr : World} {na ea : Option Addr} {n nc m ec : Nat} (h : Below (w.heap.size + 1) (dbox w na ea n nc m ec) wr) : Below w.heap.size w wr :=
  ((Below.refl _ w).alloc (Nat.le_refl _) _).trans (h.mono (by omega))

theorem Ck.cell0 {w wr : World} {na ea : Option Addr} {n nc m ec : Nat} (h : Below (w.heap.size + 1) (dbox w na ea n nc m ec) wr) : wr.cell? ⟨w.heap.size, 0, .none⟩ = some (.slice na n nc) := by
  rw [h.cell (by simp), World.cell?_alloc_at (hn := by simp)]; rfl
theorem Ck.cell1 {w wr : World} {na ea : Option Addr} {n nc m ec : Nat} (h : Below (w.heap.size + 1) (dbox w na ea n nc m ec) wr) : wr.cell? ⟨w.heap.size, 1, .none⟩ = some (.slice ea m ec) := by
  rw [h.cell (by simp), World.cell?_alloc_at (hn := by simp)]; rfl

set_option maxRecDepth 100000 in
set_option maxHeartbeats 16000000 in
theorem check (F : Go.Stop.Interp) (na ea : Option Addr) (nc ec : Nat) (N : List Nd) (E : List Ed) (w : World) (hF : F.answers w.tape) (hn : N.length ≤ 65536) (hm : E.length ≤ 65536) (hP : PL w na N) (hE : EL w ea E) (hS : Sz E) (hO : ∀ n ∈ N, NdOk w n) :
    Calls Tryf.prog 14 #[.agg #[.slice na N.length nc, .slice ea E.length ec]] w fun e w' => JudgedAny (Valid N E) w w' e := by
  have HF := hide hF
  have HP := hide hP
  have HE := hide hE
  have HS := hide hS
  have HZ := hide hO
  have hmk := fun W => mkMap Tryf.underlying70 N.length W
  have hmk2 := fun W => mkMap Tryf.underlying72 E.length W
  clear hP hE hS hO hF
  generalize hnn : N.length = n at hn hmk ⊢
  have HN := hide hnn
  clear hnn
  generalize hmm : E.length = m at hm hmk2 ⊢
  have HM := hide hmm
  clear hmm
  go_enter Tryf.func14, Tryf.ntmps14
  go_wp2_with fail
  go_loopg [24] (n + 1) (fun g v24 wr => ∃ (k : Nat), g = n + 1 - k ∧ k ≤ n ∧ v24 = .int .i64 k ∧ V1 (N.take k) ∧ Ids wr (w.heap.size + 1) k ((N.take k).map Nd.id) ∧ Below (w.heap.size + 1) (dbox w na ea n nc m ec) wr)
  case atStart =>
    refine ⟨0, rfl, Nat.zero_le _, rfl, V1.nil, ⟨[], ?_, fun s => by simp⟩, (Below.refl _ _).alloc (by simp) _⟩
    have := FlagM.made (dbox w na ea n nc m ec)
    simpa using this
  case round =>
    obtain ⟨k, rfl, hk, rfl, hV, hI, hB⟩ := hrel
    clear hmk
    by_cases h1 : k < n
    · obtain ⟨nd, hnd⟩ := at_some N k (by rw [HN.out]; exact h1)
      obtain ⟨pa, ra, b, off, rfl, hb, hpol, hret, hcell⟩ := (unhide HP) k nd hnd
      have hBw := Ck.below hB
      have d0 : wr.cell? ⟨b, off + k * 7, .none⟩ = some (.string nd.id) := (hBw.cell hb).trans (hcell 0 (by omega))
      have d1 : wr.cell? ⟨b, off + k * 7 + 1, .none⟩ = some (.string nd.ty) := (hBw.cell hb).trans (hcell 1 (by omega))
      have d2 : wr.cell? ⟨b, off + k * 7 + 2, .none⟩ = some (.string ByteArray.empty) := (hBw.cell hb).trans (hcell 2 (by omega))
      have d3 : wr.cell? ⟨b, off + k * 7 + 3, .none⟩ = some (.map .none) := (hBw.cell hb).trans (hcell 3 (by omega))
      have d4 : wr.cell? ⟨b, off + k * 7 + 4, .none⟩ = some (.pointer pa) := (hBw.cell hb).trans (hcell 4 (by omega))
      have d5 : wr.cell? ⟨b, off + k * 7 + 5, .none⟩ = some (.pointer ra) := (hBw.cell hb).trans (hcell 5 (by omega))
      have d6 : wr.cell? ⟨b, off + k * 7 + 6, .none⟩ = some (.pointer .none) := (hBw.cell hb).trans (hcell 6 (by omega))
      have hzn : nd.id.size ≤ maxLen := ((unhide HZ) nd (List.mem_of_getElem? hnd)).z0
      have hlt := hI.lt
      have htp : wr.tape = w.tape := hBw.tape
      have HX := hide (And.intro hV (And.intro hI (And.intro hB (And.intro hnd hzn))))
      have HT := hide htp
      clear hV hI hB hnd hzn hcell hpol hret hBw htp
      by_cases h2 : vId nd.id
      · have H2 := hide h2
        clear h2
        by_cases h3 : nd.id ∈ (N.take k).map Nd.id
        · have HY : Hid (¬ Valid N E) := hide (fun h => V1.bad (unhide HX).2.2.2.1 (.inr (.inr h3)) h.1)
          have H3 := hide h3
          clear h3
          go_wp2_with (first
            | (go_at_call 18; refine (validID nd.id (unhide HX).2.2.2.2 _).mono ?_; rintro e w1 ⟨bb, rfl, hbb, hB1⟩; obtain rfl : bb = true := hbb.2 (unhide H2); have t0 : w1.cell? ⟨wr.heap.size, 0, .none⟩ = some (.string nd.id) := (hB1.cell (by simp)).trans (by rw [World.cell?_alloc_at (hn := by simp)]; rfl); have t1 : w1.cell? ⟨wr.heap.size, 1, .none⟩ = some (.string nd.ty) := (hB1.cell (by simp)).trans (by rw [World.cell?_alloc_at (hn := by simp)]; rfl); have hs1 : wr.heap.size < w1.heap.size := Nat.lt_of_lt_of_le (by simp) hB1.size; have hI1 : Ids w1 (w.heap.size + 1) k ((N.take k).map Nd.id) := (unhide HX).2.1.of_block ((hB1.block _ (by simp; omega)).trans (Below.heap_alloc _ _ _ hlt)); have hlk1 := hI1.look nd.id (unhide HX).2.2.2.2; clear hbb; rw [isIn_true (unhide H3)] at hlk1; clear hI1)
            | (go_at_call 19; refine (errorf_q1 F _ _ 9 (.inl rfl) _ _ (by have h3 := hB1.tape; show F.answers w1.tape; rw [h3]; show F.answers wr.tape; rw [unhide HT]; exact unhide HF) fTwice (by rw [World.cell?_alloc_at (hn := by simp)]; rfl)).mono ?_; rintro e w3 ⟨v, rfl, hv, hB3⟩))
          go_ret
          exact JudgedAny.bad (unhide HY) hv (bthen (bthen (Ck.below (unhide HX).2.2.1) ((Below.refl _ wr).alloc (Nat.le_refl _) _)) (hB1.alloc hB1.size _)) hB3
        · have H3 := hide h3
          clear h3
          have q5 := tl_nil nd.ty
          by_cases h4 : nd.ty.size = 0
          · have HY : Hid (¬ Valid N E) := hide (fun h => V1.bad (unhide HX).2.2.2.1 (.inr (.inl h4)) h.1)
            rw [decide_eq_true h4] at q5
            clear h4
            go_wp2_with (first
              | (go_at_call 18; refine (validID nd.id (unhide HX).2.2.2.2 _).mono ?_; rintro e w1 ⟨bb, rfl, hbb, hB1⟩; obtain rfl : bb = true := hbb.2 (unhide H2); have t0 : w1.cell? ⟨wr.heap.size, 0, .none⟩ = some (.string nd.id) := (hB1.cell (by simp)).trans (by rw [World.cell?_alloc_at (hn := by simp)]; rfl); have t1 : w1.cell? ⟨wr.heap.size, 1, .none⟩ = some (.string nd.ty) := (hB1.cell (by simp)).trans (by rw [World.cell?_alloc_at (hn := by simp)]; rfl); have hs1 : wr.heap.size < w1.heap.size := Nat.lt_of_lt_of_le (by simp) hB1.size; have hI1 : Ids w1 (w.heap.size + 1) k ((N.take k).map Nd.id) := (unhide HX).2.1.of_block ((hB1.block _ (by simp; omega)).trans (Below.heap_alloc _ _ _ hlt)); have hlk1 := hI1.look nd.id (unhide HX).2.2.2.2; clear hbb; rw [isIn_false (unhide H3)] at hlk1; obtain ⟨w2, hup, hI2, hg2⟩ := hI1.on nd.id (unhide HX).2.2.2.2 (by unfold maxLen; omega); have y0 : w2.cell? ⟨wr.heap.size, 0, .none⟩ = some (.string nd.id) := (hg2.cell_far _ hs1 (by simp; omega)).trans t0; have y1 : w2.cell? ⟨wr.heap.size, 1, .none⟩ = some (.string nd.ty) := (hg2.cell_far _ hs1 (by simp; omega)).trans t1; clear hI1 hI2)
              | (go_at_call 19; refine (errorf_q1 F _ _ 9 (.inl rfl) _ _ (by have h3 := hg2.tape.trans hB1.tape; show F.answers w2.tape; rw [h3]; show F.answers wr.tape; rw [unhide HT]; exact unhide HF) fType (by rw [World.cell?_alloc_at (hn := by simp)]; rfl)).mono ?_; rintro e w3 ⟨v, rfl, hv, hB3⟩))
            go_ret
            have hBa := bthen (bthen (Ck.below (unhide HX).2.2.1) ((Below.refl _ wr).alloc (Nat.le_refl _) _)) hB1
            have hBb := hBa.grown hg2 hBa.size (fun j hj => by injection hj with hj; omega)
            exact JudgedAny.bad (unhide HY) hv (hBb.alloc hBb.size _) hB3
          · rw [decide_eq_false h4] at q5
            have H4 := hide h4
            clear h4
            go_wp2_with (first
              | (go_at_call 18; refine (validID nd.id (unhide HX).2.2.2.2 _).mono ?_; rintro e w1 ⟨bb, rfl, hbb, hB1⟩; obtain rfl : bb = true := hbb.2 (unhide H2); have t0 : w1.cell? ⟨wr.heap.size, 0, .none⟩ = some (.string nd.id) := (hB1.cell (by simp)).trans (by rw [World.cell?_alloc_at (hn := by simp)]; rfl); have t1 : w1.cell? ⟨wr.heap.size, 1, .none⟩ = some (.string nd.ty) := (hB1.cell (by simp)).trans (by rw [World.cell?_alloc_at (hn := by simp)]; rfl); have hs1 : wr.heap.size < w1.heap.size := Nat.lt_of_lt_of_le (by simp) hB1.size; have hI1 : Ids w1 (w.heap.size + 1) k ((N.take k).map Nd.id) := (unhide HX).2.1.of_block ((hB1.block _ (by simp; omega)).trans (Below.heap_alloc _ _ _ hlt)); have hlk1 := hI1.look nd.id (unhide HX).2.2.2.2; clear hbb; rw [isIn_false (unhide H3)] at hlk1; obtain ⟨w2, hup, hI2, hg2⟩ := hI1.on nd.id (unhide HX).2.2.2.2 (by unfold maxLen; omega); have y0 : w2.cell? ⟨wr.heap.size, 0, .none⟩ = some (.string nd.id) := (hg2.cell_far _ hs1 (by simp; omega)).trans t0; have y1 : w2.cell? ⟨wr.heap.size, 1, .none⟩ = some (.string nd.ty) := (hg2.cell_far _ hs1 (by simp; omega)).trans t1; have HI2 := hide hI2; clear hI1 hI2))
            go_roundg (n + 1 - (k + 1))
            case measure => omega
            case rel =>
              obtain ⟨x1, x2, x3, x4, x5⟩ := unhide HX
              refine ⟨k + 1, rfl, by omega, by go_num, x1.step x4 (unhide H2) (unhide H4) (unhide H3), by rw [List.take_add_one, x4, List.map_append]; exact unhide HI2, ?_⟩
              have hxs : w.heap.size + 1 ≤ wr.heap.size := by omega
              have hBa := (x3.alloc hxs _).trans (hB1.mono (by simp; omega))
              exact hBa.grown hg2 (by omega) (fun j hj => by injection hj with hj; omega)
      · have HY : Hid (¬ Valid N E) := hide (fun h => V1.bad (unhide HX).2.2.2.1 (.inl h2) h.1)
        have H2 := hide h2
        clear h2
        go_wp2_with (first
          | (go_at_call 18; refine (validID nd.id (unhide HX).2.2.2.2 _).mono ?_; rintro e w1 ⟨bb, rfl, hbb, hB1⟩; obtain rfl : bb = false := (Bool.eq_false_iff.2 (fun h => unhide H2 (hbb.1 h))); have t0 : w1.cell? ⟨wr.heap.size, 0, .none⟩ = some (.string nd.id) := (hB1.cell (by simp)).trans (by rw [World.cell?_alloc_at (hn := by simp)]; rfl); clear hbb)
          | (go_at_call 19; refine (errorf_q1 F _ _ 9 (.inl rfl) _ _ (by have h3 := hB1.tape; show F.answers w1.tape; rw [h3]; show F.answers wr.tape; rw [unhide HT]; exact unhide HF) fNode (by rw [World.cell?_alloc_at (hn := by simp)]; rfl)).mono ?_; rintro e w3 ⟨v, rfl, hv, hB3⟩))
        go_ret
        exact JudgedAny.bad (unhide HY) hv (bthen (bthen (Ck.below (unhide HX).2.2.1) ((Below.refl _ wr).alloc (Nat.le_refl _) _)) (hB1.alloc hB1.size _)) hB3
    · obtain rfl : k = n := by omega
      have htn : N.take k = N := List.take_of_length_le (by rw [HN.out]; exact Nat.le_refl _)
      rw [htn] at hV hI
      obtain ⟨wa, hwa⟩ : ∃ wa, wa = wr := ⟨_, rfl⟩
      subst hwa
      have b1 := Ck.cell1 hB
      have b0 := Ck.cell0 hB
      have hbl : w.heap.size < wa.heap.size := Nat.lt_of_lt_of_le (by simp) hB.size
      have hil := hI.lt
      have HX := hide (And.intro hV (And.intro hI hB))
      clear hV hI hB htn
      go_wp2_with fail
      go_loopg [65] (m + 1) (fun g v65 wr => ∃ (j : Nat), g = m + 1 - j ∧ j ≤ m ∧ v65 = .int .i64 j ∧ V2 N (E.take j) ∧ VM wr wa.heap.size j (fun s => (look (E.take j) s).map edv) ∧ Below wa.heap.size wa wr)
      case atStart => exact ⟨0, rfl, Nat.zero_le _, rfl, V2.nil N, (VM.made wa).congr (fun s => rfl), (Below.refl _ wa).alloc (Nat.le_refl _) _⟩
      case round =>
        obtain ⟨j, rfl, hj, rfl, hV2, hVM, hB2⟩ := hrel
        by_cases h1 : j < m
        · obtain ⟨e, he⟩ := at_some E j (by rw [HM.out]; exact h1)
          obtain ⟨b, off, rfl, hb, c0, c1, c2, c3⟩ := (unhide HE) j e he
          have hBw := bthen (Ck.below (unhide HX).2.2) hB2
          have d0 := (hBw.cell (p := ⟨b, off + j * 4, .none⟩) hb).trans c0
          have d1 := (hBw.cell (p := ⟨b, off + j * 4 + 1, .none⟩) hb).trans c1
          have d2 := (hBw.cell (p := ⟨b, off + j * 4 + 2, .none⟩) hb).trans c2
          have d3 := (hBw.cell (p := ⟨b, off + j * 4 + 3, .none⟩) hb).trans c3
          have hze := (unhide HS) e (List.mem_of_getElem? he)
          have hlt := hVM.lt
          have htp : wr.tape = w.tape := hBw.tape
          have hlk : ∀ o, (Instr.lookup 72 (.map (some wa.heap.size)) (.string e.id) true).run Tryf.prog (wr.alloc o) = .ok (.tuple #[((look (E.take j) e.id).map edv).getD (.agg #[.string ByteArray.empty, .string ByteArray.empty, .string ByteArray.empty, .bool false]), .bool ((look (E.take j) e.id).map edv).isSome]) (wr.alloc o) := fun o =>
            (hVM.of_block (Below.heap_alloc _ _ _ hlt)).lookOk Tryf.underlying72 (zero40 _) e.id hze.1
          have q5 := tl_nil e.id
          have hIr : Ids wr (w.heap.size + 1) k (N.map Nd.id) := (unhide HX).2.1.of_block (hB2.block _ hil)
          have HY := hide (And.intro hV2 (And.intro hVM (And.intro hB2 (And.intro he (And.intro hze (And.intro hBw hIr))))))
          have HT := hide htp
          clear hV2 hVM hB2 he hze hBw htp hIr c0 c1 c2 c3
          by_cases h2 : e.id.size = 0
          · have HV : Hid (¬ Valid N E) := hide (fun h => V2.bad (unhide HY).2.2.2.1 (.inl h2) h.2.1)
            rw [decide_eq_true h2] at q5
            clear h2 hlk
            go_wp2_with (go_at_call 19; refine (errorf_q2 F _ _ _ _ _ (by show F.answers wr.tape; rw [unhide HT]; exact unhide HF) fNoId (by rw [World.cell?_alloc_at (hn := by simp)]; rfl) (by rw [World.cell?_alloc_at (hn := by simp)]; rfl)).mono ?_; rintro e w3 ⟨v, rfl, hv, hB3⟩)
            go_ret
            have hx := (unhide HY).2.2.2.2.2.1
            exact JudgedAny.bad (unhide HV) hv ((hx.alloc hx.size _).alloc (by have := hx.size; simp; omega) _) hB3
          · rw [decide_eq_false h2] at q5
            have H2 := hide h2
            clear h2
            have hrs : w.heap.size + 1 < wr.heap.size := by omega
            cases hlo : look (E.take j) e.id with
            | some e0 =>
              have HV : Hid (¬ Valid N E) := hide (fun h => V2.bad (unhide HY).2.2.2.1 (.inr (.inr (.inr ((look_some e.id).1 (by rw [hlo]; rfl))))) h.2.1)
              rw [hlo] at hlk
              simp only [Option.map_some, Option.getD_some, Option.isSome_some, edv] at hlk
              clear hlo
              go_wp2_with (go_at_call 19; refine (errorf_q1 F _ _ 9 (.inl rfl) _ _ (by show F.answers wr.tape; rw [unhide HT]; exact unhide HF) fETwice (by rw [World.cell?_alloc_at (hn := by simp)]; rfl)).mono ?_; rintro e w3 ⟨v, rfl, hv, hB3⟩)
              go_ret
              have hx := (unhide HY).2.2.2.2.2.1
              exact JudgedAny.bad (unhide HV) hv (((hx.alloc hx.size _).alloc (by have := hx.size; simp; omega) _).alloc (by have := hx.size; simp; omega) _) hB3
            | none =>
              have hni : e.id ∉ (E.take j).map Ed.id := fun h => by
                have := (look_some e.id).2 h
                rw [hlo] at this
                cases this
              rw [hlo] at hlk
              simp only [Option.map_none, Option.getD_none, Option.isSome_none] at hlk
              have HNI := hide hni
              clear hlo hni
              by_cases h3 : e.src ∈ N.map Nd.id
              · have H3 := hide h3
                clear h3
                by_cases h4 : e.dst ∈ N.map Nd.id
                · have H4 := hide h4
                  clear h4
                  go_wp2_with (at_mapUpdate; refine wpList_up _ (by rfl) _ _ _ 72 (by rfl) 40 Tryf.underlying72 wa.heap.size j (fun s => (look (E.take j) s).map edv) (by rfl) ((unhide HY).2.1.of_block ((Below.heap_alloc _ _ _ (by simp; omega)).trans (Below.heap_alloc _ _ _ hlt))) (by unfold maxLen; omega) e.id (edv e) (by rfl) (by rfl) (unhide HY).2.2.2.2.1.1 ?_; intro w4 hVM4 hg4; have hs4 : wr.heap.size + 2 ≤ w4.heap.size := (by have h5 := hg4.size; simp at h5; omega); have y0 : w4.cell? ⟨wr.heap.size, 0, .none⟩ = some (.string e.id) := (hg4.cell_far _ (by simp; omega) (by simp; omega)).trans (by rw [World.cell?_alloc_lt (h := by simp), World.cell?_alloc_at (hn := by simp)]; rfl); have y1 : w4.cell? ⟨wr.heap.size, 1, .none⟩ = some (.string e.src) := (hg4.cell_far _ (by simp; omega) (by simp; omega)).trans (by rw [World.cell?_alloc_lt (h := by simp), World.cell?_alloc_at (hn := by simp)]; rfl); have y2 : w4.cell? ⟨wr.heap.size, 2, .none⟩ = some (.string e.dst) := (hg4.cell_far _ (by simp; omega) (by simp; omega)).trans (by rw [World.cell?_alloc_lt (h := by simp), World.cell?_alloc_at (hn := by simp)]; rfl); have hI4 : Ids w4 (w.heap.size + 1) k (N.map Nd.id) := (unhide HY).2.2.2.2.2.2.of_block ((hg4.block _ (by simp; omega) (by simp; omega)).trans ((Below.heap_alloc _ _ _ (by simp; omega)).trans (Below.heap_alloc _ _ _ (by omega)))); have hls := hI4.look e.src (unhide HY).2.2.2.2.1.2.1; have hld := hI4.look e.dst (unhide HY).2.2.2.2.1.2.2; have HV4 := hide hVM4; clear hVM4 hI4; rw [isIn_true (unhide H3)] at hls; rw [isIn_true (unhide H4)] at hld)
                  go_roundg (m + 1 - (j + 1))
                  case measure => omega
                  case rel =>
                    obtain ⟨x1, x2, x3, x4, x5, x6, x7⟩ := unhide HY
                    refine ⟨j + 1, rfl, by omega, by go_num, x1.step x4 (unhide H2) (unhide H3) (unhide H4) (unhide HNI), (unhide HV4).congr (fun s => ?_), ?_⟩
                    · rw [look_step x4 (unhide HNI)]
                      unfold upd
                      split <;> rfl
                    · exact ((x3.alloc x3.size _).alloc (by have := x3.size; simp; omega) _).grown hg4 (by have := x3.size; simp; omega) (fun i hi => by injection hi with hi; omega)
                · have HV : Hid (¬ Valid N E) := hide (fun h => V2.bad (unhide HY).2.2.2.1 (.inr (.inr (.inl h4))) h.2.1)
                  have H4 := hide h4
                  clear h4
                  go_wp2_with (first
                    | (at_mapUpdate; refine wpList_up _ (by rfl) _ _ _ 72 (by rfl) 40 Tryf.underlying72 wa.heap.size j (fun s => (look (E.take j) s).map edv) (by rfl) ((unhide HY).2.1.of_block ((Below.heap_alloc _ _ _ (by simp; omega)).trans (Below.heap_alloc _ _ _ hlt))) (by unfold maxLen; omega) e.id (edv e) (by rfl) (by rfl) (unhide HY).2.2.2.2.1.1 ?_; intro w4 hVM4 hg4; have hs4 : wr.heap.size + 2 ≤ w4.heap.size := (by have h5 := hg4.size; simp at h5; omega); have y0 : w4.cell? ⟨wr.heap.size, 0, .none⟩ = some (.string e.id) := (hg4.cell_far _ (by simp; omega) (by simp; omega)).trans (by rw [World.cell?_alloc_lt (h := by simp), World.cell?_alloc_at (hn := by simp)]; rfl); have y1 : w4.cell? ⟨wr.heap.size, 1, .none⟩ = some (.string e.src) := (hg4.cell_far _ (by simp; omega) (by simp; omega)).trans (by rw [World.cell?_alloc_lt (h := by simp), World.cell?_alloc_at (hn := by simp)]; rfl); have y2 : w4.cell? ⟨wr.heap.size, 2, .none⟩ = some (.string e.dst) := (hg4.cell_far _ (by simp; omega) (by simp; omega)).trans (by rw [World.cell?_alloc_lt (h := by simp), World.cell?_alloc_at (hn := by simp)]; rfl); have hI4 : Ids w4 (w.heap.size + 1) k (N.map Nd.id) := (unhide HY).2.2.2.2.2.2.of_block ((hg4.block _ (by simp; omega) (by simp; omega)).trans ((Below.heap_alloc _ _ _ (by simp; omega)).trans (Below.heap_alloc _ _ _ (by omega)))); have hls := hI4.look e.src (unhide HY).2.2.2.2.1.2.1; have hld := hI4.look e.dst (unhide HY).2.2.2.2.1.2.2; have HV4 := hide hVM4; clear hVM4 hI4; rw [isIn_true (unhide H3)] at hls; rw [isIn_false (unhide H4)] at hld)
                    | (go_at_call 19; refine (errorf_q3 F _ _ _ _ _ _ (by have h6 := hg4.tape; show F.answers w4.tape; rw [h6]; show F.answers wr.tape; rw [unhide HT]; exact unhide HF) fJoins (by rw [World.cell?_alloc_at (hn := by simp)]; rfl) (by rw [World.cell?_alloc_at (hn := by simp)]; rfl) (by rw [World.cell?_alloc_at (hn := by simp)]; rfl)).mono ?_; rintro e w3 ⟨v, rfl, hv, hB3⟩))
                  go_ret
                  have hx := (unhide HY).2.2.2.2.2.1
                  have hz := ((hx.alloc hx.size _).alloc (by have := hx.size; simp; omega) _).grown hg4 (by have := hx.size; simp; omega) (fun i hi => by injection hi with hi; omega)
                  exact JudgedAny.bad (unhide HV) hv (hz.alloc hz.size _) hB3
              · have HV : Hid (¬ Valid N E) := hide (fun h => V2.bad (unhide HY).2.2.2.1 (.inr (.inl h3)) h.2.1)
                have H3 := hide h3
                clear h3
                go_wp2_with (first
                  | (at_mapUpdate; refine wpList_up _ (by rfl) _ _ _ 72 (by rfl) 40 Tryf.underlying72 wa.heap.size j (fun s => (look (E.take j) s).map edv) (by rfl) ((unhide HY).2.1.of_block ((Below.heap_alloc _ _ _ (by simp; omega)).trans (Below.heap_alloc _ _ _ hlt))) (by unfold maxLen; omega) e.id (edv e) (by rfl) (by rfl) (unhide HY).2.2.2.2.1.1 ?_; intro w4 hVM4 hg4; have hs4 : wr.heap.size + 2 ≤ w4.heap.size := (by have h5 := hg4.size; simp at h5; omega); have y0 : w4.cell? ⟨wr.heap.size, 0, .none⟩ = some (.string e.id) := (hg4.cell_far _ (by simp; omega) (by simp; omega)).trans (by rw [World.cell?_alloc_lt (h := by simp), World.cell?_alloc_at (hn := by simp)]; rfl); have y1 : w4.cell? ⟨wr.heap.size, 1, .none⟩ = some (.string e.src) := (hg4.cell_far _ (by simp; omega) (by simp; omega)).trans (by rw [World.cell?_alloc_lt (h := by simp), World.cell?_alloc_at (hn := by simp)]; rfl); have y2 : w4.cell? ⟨wr.heap.size, 2, .none⟩ = some (.string e.dst) := (hg4.cell_far _ (by simp; omega) (by simp; omega)).trans (by rw [World.cell?_alloc_lt (h := by simp), World.cell?_alloc_at (hn := by simp)]; rfl); have hI4 : Ids w4 (w.heap.size + 1) k (N.map Nd.id) := (unhide HY).2.2.2.2.2.2.of_block ((hg4.block _ (by simp; omega) (by simp; omega)).trans ((Below.heap_alloc _ _ _ (by simp; omega)).trans (Below.heap_alloc _ _ _ (by omega)))); have hls := hI4.look e.src (unhide HY).2.2.2.2.1.2.1; have hld := hI4.look e.dst (unhide HY).2.2.2.2.1.2.2; have HV4 := hide hVM4; clear hVM4 hI4; rw [isIn_false (unhide H3)] at hls)
                  | (go_at_call 19; refine (errorf_q3 F _ _ _ _ _ _ (by have h6 := hg4.tape; show F.answers w4.tape; rw [h6]; show F.answers wr.tape; rw [unhide HT]; exact unhide HF) fJoins (by rw [World.cell?_alloc_at (hn := by simp)]; rfl) (by rw [World.cell?_alloc_at (hn := by simp)]; rfl) (by rw [World.cell?_alloc_at (hn := by simp)]; rfl)).mono ?_; rintro e w3 ⟨v, rfl, hv, hB3⟩))
                go_ret
                have hx := (unhide HY).2.2.2.2.2.1
                have hz := ((hx.alloc hx.size _).alloc (by have := hx.size; simp; omega) _).grown hg4 (by have := hx.size; simp; omega) (fun i hi => by injection hi with hi; omega)
                exact JudgedAny.bad (unhide HV) hv (hz.alloc hz.size _) hB3
        · obtain rfl : j = m := by omega
          have htm : E.take j = E := List.take_of_length_le (by rw [HM.out]; exact Nat.le_refl _)
          rw [htm] at hV2 hVM
          obtain ⟨wb, hwb⟩ : ∃ wb, wb = wr := ⟨_, rfl⟩
          subst hwb
          have hBw := bthen (Ck.below (unhide HX).2.2) hB2
          have e0 := (hB2.cell (p := ⟨w.heap.size, 0, .none⟩) hbl).trans b0
          have e1 := (hB2.cell (p := ⟨w.heap.size, 1, .none⟩) hbl).trans b1
          have hbl2 : w.heap.size < wb.heap.size := Nat.lt_of_lt_of_le hbl hB2.size
          have hma : wa.heap.size < wb.heap.size := hVM.lt
          have hcy := cycle na ea nc ec N E wb (by rw [HN.out]; exact hn) (by rw [HM.out]; exact hm) ((unhide HP).mono hBw) ((unhide HE).mono hBw) (unhide HS) (fun nd h => ((unhide HZ) nd h).z0) (fun e he => (hV2.1 e he).2.1) (fun e he => (hV2.1 e he).2.2)
          rw [HN.out, HM.out] at hcy
          have HCY := hide hcy
          have HY := hide (And.intro hV2 (And.intro hVM (And.intro hB2 hBw)))
          have htp : wb.tape = w.tape := hBw.tape
          have HT := hide htp
          clear hV2 hVM hB2 htm hBw hcy htp b0 b1
          by_cases h2 : Acyc E
          · have H2 := hide h2
            clear h2
            go_wp2_with (go_at_call 20; refine (unhide HCY).mono ?_; rintro e w5 ⟨⟨ed, bb, rfl, hbb⟩, hB5⟩; obtain rfl : bb = false := (Bool.eq_false_iff.2 (fun h => (hbb.1 h) (unhide H2))); have z0 := (hB5.cell (p := ⟨w.heap.size, 0, .none⟩) hbl2).trans e0; have hbl5 : w.heap.size < w5.heap.size := Nat.lt_of_lt_of_le hbl2 hB5.size; have HB5 := hide hB5; clear hbb hB5; unfold edv)
            go_loopg [141] (k + 1) (fun g v141 wr => ∃ (i : Nat), g = k + 1 - i ∧ i ≤ k ∧ v141 = .int .i64 i ∧ (∀ nd ∈ N.take i, polOK E nd ∧ retOK nd) ∧ Below wb.heap.size wb wr)
            case atStart => exact ⟨0, rfl, Nat.zero_le _, rfl, fun nd h => by simp at h, (unhide HB5).alloc (unhide HB5).size _⟩
            case round =>
              obtain ⟨i, rfl, hi, rfl, hV4, hB6⟩ := hrel
              by_cases h3 : i < k
              · obtain ⟨nd, hnd⟩ := at_some N i (by rw [HN.out]; exact h3)
                obtain ⟨pa, ra, b, off, rfl, hb, hpol, hret, hcell⟩ := (unhide HP) i nd hnd
                have hBw := bthen (unhide HY).2.2.2 hB6
                have d0 : wr.cell? ⟨b, off + i * 7, .none⟩ = some (.string nd.id) := (hBw.cell hb).trans (hcell 0 (by omega))
                have d1 : wr.cell? ⟨b, off + i * 7 + 1, .none⟩ = some (.string nd.ty) := (hBw.cell hb).trans (hcell 1 (by omega))
                have d2 : wr.cell? ⟨b, off + i * 7 + 2, .none⟩ = some (.string ByteArray.empty) := (hBw.cell hb).trans (hcell 2 (by omega))
                have d3 : wr.cell? ⟨b, off + i * 7 + 3, .none⟩ = some (.map .none) := (hBw.cell hb).trans (hcell 3 (by omega))
                have d4 : wr.cell? ⟨b, off + i * 7 + 4, .none⟩ = some (.pointer pa) := (hBw.cell hb).trans (hcell 4 (by omega))
                have d5 : wr.cell? ⟨b, off + i * 7 + 5, .none⟩ = some (.pointer ra) := (hBw.cell hb).trans (hcell 5 (by omega))
                have d6 : wr.cell? ⟨b, off + i * 7 + 6, .none⟩ = some (.pointer .none) := (hBw.cell hb).trans (hcell 6 (by omega))
                have htr : wr.tape = w.tape := hBw.tape
                have HTR := hide htr
                have HND := hide (And.intro (((unhide HZ) nd (List.mem_of_getElem? hnd)).mono hBw) (And.intro (hpol.mono hBw) (And.intro (hret.mono hBw) ((unhide HY).2.1.below hB6))))
                have HW := hide (And.intro hV4 (And.intro hB6 (And.intro hnd hBw)))
                clear hV4 hB6 hnd hcell hpol hret hBw htr
                by_cases h4 : polOK E nd
                · have HPO := hide h4
                  clear h4
                  by_cases h5 : retOK nd
                  · have HRO := hide h5
                    clear h5
                    go_wp2_with (first
                      | (go_at_call 21; refine (checkPolicy F nd pa ra _ E wa.heap.size j (by show F.answers wr.tape; rw [unhide HTR]; exact unhide HF) ((unhide HND).1.mono ((Below.refl _ wr).alloc (Nat.le_refl _) _)) ((unhide HND).2.1.mono ((Below.refl _ wr).alloc (Nat.le_refl _) _)) ((unhide HND).2.2.2.below ((Below.refl _ wr).alloc (Nat.le_refl _) _))).mono ?_; rintro e w7 ⟨v7, rfl, hv7, hB7⟩; obtain rfl : v7 = .nilIface := (by rcases hv7 with h | h; exact h.2; exact absurd (unhide HPO) h.1); clear hv7; have y0 : w7.cell? ⟨wr.heap.size, 0, .none⟩ = some (.string nd.id) := (hB7.cell (by simp)).trans (by rw [World.cell?_alloc_at (hn := by simp)]; rfl); have y5 : w7.cell? ⟨wr.heap.size, 5, .none⟩ = some (.pointer ra) := (hB7.cell (by simp)).trans (by rw [World.cell?_alloc_at (hn := by simp)]; rfl); have hs7 : wr.heap.size < w7.heap.size := Nat.lt_of_lt_of_le (by simp) hB7.size; have HB7 := hide hB7; have ht7 : w7.tape = w.tape := hB7.tape.trans (unhide HTR); have HT7 := hide ht7; clear hB7 ht7)
                      | (go_at_call 22; refine (retry F nd ra _ (by rw [unhide HT7]; exact unhide HF) (unhide HND).1.zl ((unhide HND).2.2.1.mono (bthen ((Below.refl _ wr).alloc (Nat.le_refl _) _) (unhide HB7)))).mono ?_; rintro e w8 ⟨v8, rfl, hv8, hB8⟩; obtain rfl : v8 = .nilIface := (by rcases hv8 with h | h; exact h.2; exact absurd (unhide HRO) h.1); clear hv8; have x0 : w8.cell? ⟨wr.heap.size, 0, .none⟩ = some (.string nd.id) := (hB8.cell hs7).trans y0; have hs8 : wr.heap.size < w8.heap.size := Nat.lt_of_lt_of_le hs7 hB8.size; have HB8 := hide hB8; have ht8 : w8.tape = w.tape := hB8.tape.trans (unhide HT7); have HT8 := hide ht8; clear hB8 ht8))
                    go_roundg (k + 1 - (i + 1))
                    case measure => omega
                    case rel =>
                      obtain ⟨x1, x2, x3, x4⟩ := unhide HW
                      refine ⟨i + 1, rfl, by omega, by go_num, fun nd' hm => ?_, bthen (bthen (bthen x2 ((Below.refl _ wr).alloc (Nat.le_refl _) _)) (unhide HB7)) (unhide HB8)⟩
                      rw [List.take_add_one, x3] at hm
                      rcases List.mem_append.1 hm with h | h
                      · exact x1 nd' h
                      · simp at h; subst h; exact ⟨unhide HPO, unhide HRO⟩
                  · have HV : Hid (¬ Valid N E) := hide (fun h => h5 (h.2.2.2 nd (List.mem_of_getElem? (unhide HW).2.2.1)).2)
                    have HRO := hide h5
                    clear h5
                    go_wp2_with (first
                      | (go_at_call 21; refine (checkPolicy F nd pa ra _ E wa.heap.size j (by show F.answers wr.tape; rw [unhide HTR]; exact unhide HF) ((unhide HND).1.mono ((Below.refl _ wr).alloc (Nat.le_refl _) _)) ((unhide HND).2.1.mono ((Below.refl _ wr).alloc (Nat.le_refl _) _)) ((unhide HND).2.2.2.below ((Below.refl _ wr).alloc (Nat.le_refl _) _))).mono ?_; rintro e w7 ⟨v7, rfl, hv7, hB7⟩; obtain rfl : v7 = .nilIface := (by rcases hv7 with h | h; exact h.2; exact absurd (unhide HPO) h.1); clear hv7; have y0 : w7.cell? ⟨wr.heap.size, 0, .none⟩ = some (.string nd.id) := (hB7.cell (by simp)).trans (by rw [World.cell?_alloc_at (hn := by simp)]; rfl); have y5 : w7.cell? ⟨wr.heap.size, 5, .none⟩ = some (.pointer ra) := (hB7.cell (by simp)).trans (by rw [World.cell?_alloc_at (hn := by simp)]; rfl); have hs7 : wr.heap.size < w7.heap.size := Nat.lt_of_lt_of_le (by simp) hB7.size; have HB7 := hide hB7; have ht7 : w7.tape = w.tape := hB7.tape.trans (unhide HTR); have HT7 := hide ht7; clear hB7 ht7)
                      | (go_at_call 22; refine (retry F nd ra _ (by rw [unhide HT7]; exact unhide HF) (unhide HND).1.zl ((unhide HND).2.2.1.mono (bthen ((Below.refl _ wr).alloc (Nat.le_refl _) _) (unhide HB7)))).mono ?_; rintro e w8 ⟨v8, rfl, hv8, hB8⟩; obtain ⟨a9, s9, rfl, hl9, hc9⟩ : IsErr w8 v8 := (by rcases hv8 with h | h; exact absurd h.1 (unhide HRO); exact h.2); clear hv8; have x0 : w8.cell? ⟨wr.heap.size, 0, .none⟩ = some (.string nd.id) := (hB8.cell hs7).trans y0; have hs8 : wr.heap.size < w8.heap.size := Nat.lt_of_lt_of_le hs7 hB8.size; have HB8 := hide hB8; have ht8 : w8.tape = w.tape := hB8.tape.trans (unhide HT7); have HT8 := hide ht8; clear hB8 ht8)
                      | (go_at_call 19; refine (errorf_qw F _ _ _ _ _ (by show F.answers w8.tape; rw [unhide HT8]; exact unhide HF) fWrap (by rw [World.cell?_alloc_at (hn := by simp)]; rfl) (by rw [World.cell?_alloc_at (hn := by simp)]; rfl) ⟨a9, s9, rfl, by simp; omega, by rw [World.cell?_alloc_lt (h := hl9)]; exact hc9⟩).mono ?_; rintro e w9 ⟨t9, a10, rfl, hB9⟩))
                    go_ret
                    exact ⟨_, rfl, .inr ⟨unhide HV, _, _, rfl⟩, bthen (bthen (bthen (bthen (bthen (unhide HW).2.2.2 ((Below.refl _ wr).alloc (Nat.le_refl _) _)) (unhide HB7)) (unhide HB8)) ((Below.refl _ w8).alloc (Nat.le_refl _) _)) hB9⟩
                · have HV : Hid (¬ Valid N E) := hide (fun h => h4 (h.2.2.2 nd (List.mem_of_getElem? (unhide HW).2.2.1)).1)
                  have HPO := hide h4
                  clear h4
                  go_wp2_with (first
                    | (go_at_call 21; refine (checkPolicy F nd pa ra _ E wa.heap.size j (by show F.answers wr.tape; rw [unhide HTR]; exact unhide HF) ((unhide HND).1.mono ((Below.refl _ wr).alloc (Nat.le_refl _) _)) ((unhide HND).2.1.mono ((Below.refl _ wr).alloc (Nat.le_refl _) _)) ((unhide HND).2.2.2.below ((Below.refl _ wr).alloc (Nat.le_refl _) _))).mono ?_; rintro e w7 ⟨v7, rfl, hv7, hB7⟩; obtain ⟨a9, s9, rfl, hl9, hc9⟩ : IsErr w7 v7 := (by rcases hv7 with h | h; exact absurd h.1 (unhide HPO); exact h.2); clear hv7; have y0 : w7.cell? ⟨wr.heap.size, 0, .none⟩ = some (.string nd.id) := (hB7.cell (by simp)).trans (by rw [World.cell?_alloc_at (hn := by simp)]; rfl); have y5 : w7.cell? ⟨wr.heap.size, 5, .none⟩ = some (.pointer ra) := (hB7.cell (by simp)).trans (by rw [World.cell?_alloc_at (hn := by simp)]; rfl); have hs7 : wr.heap.size < w7.heap.size := Nat.lt_of_lt_of_le (by simp) hB7.size; have HB7 := hide hB7; have ht7 : w7.tape = w.tape := hB7.tape.trans (unhide HTR); have HT7 := hide ht7; clear hB7 ht7)
                    | (go_at_call 19; refine (errorf_qw F _ _ _ _ _ (by show F.answers w7.tape; rw [unhide HT7]; exact unhide HF) fWrap (by rw [World.cell?_alloc_at (hn := by simp)]; rfl) (by rw [World.cell?_alloc_at (hn := by simp)]; rfl) ⟨a9, s9, rfl, by simp; omega, by rw [World.cell?_alloc_lt (h := hl9)]; exact hc9⟩).mono ?_; rintro e w9 ⟨t9, a10, rfl, hB9⟩))
                  go_ret
                  exact ⟨_, rfl, .inr ⟨unhide HV, _, _, rfl⟩, bthen (bthen (bthen (bthen (unhide HW).2.2.2 ((Below.refl _ wr).alloc (Nat.le_refl _) _)) (unhide HB7)) ((Below.refl _ w7).alloc (Nat.le_refl _) _)) hB9⟩
              · obtain rfl : i = k := by omega
                have htk : N.take i = N := List.take_of_length_le (by rw [HN.out]; exact Nat.le_refl _)
                rw [htk] at hV4
                have HW := hide (And.intro hV4 hB6)
                clear hV4 hB6 htk
                go_wp2_with fail
                go_ret
                exact ⟨_, rfl, .inl ⟨⟨(unhide HX).1, (unhide HY).1, unhide H2, (unhide HW).1⟩, rfl⟩, bthen (unhide HY).2.2.2 (unhide HW).2⟩
          · have HV : Hid (¬ Valid N E) := hide (fun h => h2 h.2.2.1)
            have H2 := hide h2
            clear h2
            go_wp2_with (first
              | (go_at_call 20; refine (unhide HCY).mono ?_; rintro e w5 ⟨⟨ed, bb, rfl, hbb⟩, hB5⟩; obtain rfl : bb = true := (hbb.2 (unhide H2)); have ht5 : w5.tape = w.tape := hB5.tape.trans (unhide HT); have HT5 := hide ht5; have HB5 := hide hB5; clear hbb hB5 ht5; unfold edv)
              | (go_at_call 19; refine (errorf_q3 F _ _ _ _ _ _ (by show F.answers w5.tape; rw [unhide HT5]; exact unhide HF) fCycle (by rw [World.cell?_alloc_at (hn := by simp)]; rfl) (by rw [World.cell?_alloc_at (hn := by simp)]; rfl) (by rw [World.cell?_alloc_at (hn := by simp)]; rfl)).mono ?_; rintro e w3 ⟨v, rfl, hv, hB3⟩))
            go_ret
            have hz := bthen (unhide HY).2.2.2 (unhide HB5)
            exact JudgedAny.bad (unhide HV) hv ((hz.alloc hz.size _).alloc (by have := hz.size; simp; omega) _) hB3

end Go.Proofs.Qxb6614206aFmt
