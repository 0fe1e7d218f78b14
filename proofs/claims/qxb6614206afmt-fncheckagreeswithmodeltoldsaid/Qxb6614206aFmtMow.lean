import Derived.Test.Qxb6614206aFmtMoy
set_option linter.unusedVariables false
set_option linter.unusedSimpArgs false
namespace Go.Proofs.Qxb6614206aFmt
open Go.RowKit

set_option maxRecDepth 100000 in
set_option maxHeartbeats 16000000 in
theorem model (na ea : Option Addr) (nc ec : Nat) (N : List Nd) (E : List Ed) (w : World) (hn : N.length ≤ 65536) (hm : E.length ≤ 65536) (hP : NL w na N) (hE : EL w ea E) (hS : Sz E) :
    Calls Tryf.prog 10 #[.slice na N.length nc, .slice ea E.length ec] w fun e w' => Says (Valid N E) w w' e := by
  have HP := hide hP
  have HE := hide hE
  have HS := hide hS
  have hmk := fun W => mkMap Tryf.underlying60 N.length W
  have hmk2 := fun W => mkMap Tryf.underlying63 E.length W
  clear hP hE hS
  generalize hnn : N.length = n at hn hmk ⊢
  have HN := hide hnn
  clear hnn
  generalize hmm : E.length = m at hm hmk2 ⊢
  have HM := hide hmm
  clear hmm
  go_enter Tryf.func10, Tryf.ntmps10
  go_wp2_with fail
  go_loopg [6] (n + 1) (fun g v6 wr => ∃ (k : Nat), g = n + 1 - k ∧ k ≤ n ∧ v6 = .int .i64 k ∧ V1 (N.take k) ∧ VM wr w.heap.size k (fun s => (ix ((N.take k).map Nd.id) s).map iv) ∧ Below w.heap.size w wr)
  case atStart => exact ⟨0, rfl, Nat.zero_le _, rfl, V1.nil, (VM.made w).congr (fun s => rfl), (Below.refl _ w).alloc (Nat.le_refl _) _⟩
  case round =>
    obtain ⟨k, rfl, hk, rfl, hV, hI, hB⟩ := hrel
    clear hmk
    by_cases h1 : k < n
    · obtain ⟨nd, hnd⟩ := at_some N k (by rw [HN.out]; exact h1)
      obtain ⟨ok, b, off, rfl, hb, c0, c1, c2, c3, c4, c5, c6, c7, c8⟩ := (unhide HP) k nd hnd
      have d0 := (hB.cell (p := ⟨b, off + k * 9, .none⟩) hb).trans c0
      have d1 := (hB.cell (p := ⟨b, off + k * 9 + 1, .none⟩) hb).trans c1
      have hzn := ok.z0
      have hlk := hI.lookOk Tryf.underlying60 (zero3 wr) nd.id hzn
      have hlt := hI.lt
      have q5 := tl_nil nd.ty
      have HX := hide (And.intro hV (And.intro hI (And.intro hB (And.intro hnd hzn))))
      clear hV hI hB hnd hzn ok c0 c1 c2 c3 c4 c5 c6 c7 c8
      by_cases h2 : vId nd.id
      · have H2 := hide h2
        clear h2
        by_cases h4 : nd.ty.size = 0
        · have HV : Hid (¬ Valid N E) := hide (fun h => V1.bad (unhide HX).2.2.2.1 (.inr (.inl h4)) h.1)
          rw [decide_eq_true h4] at q5
          clear h4
          go_wp2_with (go_at_call 15; refine (zzValid nd.id (unhide HX).2.2.2.2 _).mono ?_; rintro e w1 ⟨bb, rfl, hbb, rfl⟩; obtain rfl : bb = true := hbb.2 (unhide H2); clear hbb)
          go_ret
          exact Says.no (unhide HV) (unhide HX).2.2.1
        · rw [decide_eq_false h4] at q5
          have H4 := hide h4
          clear h4
          cases hlo : ix ((N.take k).map Nd.id) nd.id with
          | some i0 =>
            have HV : Hid (¬ Valid N E) := hide (fun h => V1.bad (unhide HX).2.2.2.1 (.inr (.inr (ix_mem.1 (by rw [hlo]; rfl)))) h.1)
            rw [hlo] at hlk
            simp only [Option.map_some, Option.getD_some, Option.isSome_some, iv] at hlk
            clear hlo
            go_wp2_with (go_at_call 15; refine (zzValid nd.id (unhide HX).2.2.2.2 _).mono ?_; rintro e w1 ⟨bb, rfl, hbb, rfl⟩; obtain rfl : bb = true := hbb.2 (unhide H2); clear hbb)
            go_ret
            exact Says.no (unhide HV) (unhide HX).2.2.1
          | none =>
            have hni : nd.id ∉ (N.take k).map Nd.id := fun h => by
              have := ix_mem.2 h
              rw [hlo] at this
              cases this
            rw [hlo] at hlk
            simp only [Option.map_none, Option.getD_none, Option.isSome_none] at hlk
            have HNI := hide hni
            clear hlo hni
            go_wp2_with (first
              | (go_at_call 15; refine (zzValid nd.id (unhide HX).2.2.2.2 _).mono ?_; rintro e w1 ⟨bb, rfl, hbb, rfl⟩; obtain rfl : bb = true := hbb.2 (unhide H2); clear hbb)
              | (at_mapUpdate; refine wpList_up _ (by rfl) _ _ _ 60 (by rfl) 3 Tryf.underlying60 w.heap.size k (fun s => (ix ((N.take k).map Nd.id) s).map iv) (by rfl) (unhide HX).2.1 (by unfold maxLen; omega) nd.id (iv k) (by rfl) (by rfl) (unhide HX).2.2.2.2 ?_; intro w4 hVM4 hg4))
            go_roundg (n + 1 - (k + 1))
            case measure => omega
            case rel =>
              obtain ⟨x1, x2, x3, x4, x5⟩ := unhide HX
              refine ⟨k + 1, rfl, by omega, by go_num, x1.step x4 (unhide H2) (unhide H4) (unhide HNI), hVM4.congr (fun s => ?_), x3.grown hg4 x3.size (fun i hi => by injection hi with hi; omega)⟩
              rw [List.take_add_one, x4, List.map_append]
              show _ = (ix ((N.take k).map Nd.id ++ [nd.id]) s).map iv
              rw [ix_snoc (unhide HNI)]
              unfold upd
              have hl : ((N.take k).map Nd.id).length = k := by simp; rw [HN.out]; omega
              rw [hl]
              split <;> rfl
      · have HV : Hid (¬ Valid N E) := hide (fun h => V1.bad (unhide HX).2.2.2.1 (.inl h2) h.1)
        have H2 := hide h2
        clear h2
        go_wp2_with (go_at_call 15; refine (zzValid nd.id (unhide HX).2.2.2.2 _).mono ?_; rintro e w1 ⟨bb, rfl, hbb, rfl⟩; obtain rfl : bb = false := (Bool.eq_false_iff.2 (fun h => unhide H2 (hbb.1 h))); clear hbb)
        go_ret
        exact Says.no (unhide HV) (unhide HX).2.2.1
    · obtain rfl : k = n := by omega
      have htn : N.take k = N := List.take_of_length_le (by rw [HN.out]; exact Nat.le_refl _)
      rw [htn] at hV hI
      obtain ⟨wa, hwa⟩ : ∃ wa, wa = wr := ⟨_, rfl⟩
      subst hwa
      have hil := hI.lt
      have HX := hide (And.intro hV (And.intro hI hB))
      have hmk3 := make64 k hn
      have hmk4 := make65 k hn
      clear hV hI hB htn
      go_wp2_with fail
      go_loopg [12] (m + 1) (fun g v12 wr => ∃ (j : Nat) (V : Nat → Value) (I : Nat → Nat), g = m + 1 - j ∧ j ≤ m ∧ v12 = .int .i64 j ∧ Kg wa wr N E k j V I)
      case atStart => exact ⟨0, _, _, rfl, Nat.zero_le _, rfl, Kg.start wa N E k⟩
      case round =>
        obtain ⟨j, V, I, rfl, hj, rfl, hK⟩ := hrel
        clear hmk2 hmk3 hmk4
        by_cases h1 : j < m
        · obtain ⟨e, he⟩ := at_some E j (by rw [HM.out]; exact h1)
          obtain ⟨b, off, rfl, hb, c0, c1, c2, c3⟩ := (unhide HE) j e he
          have hBw := bthen (unhide HX).2.2 hK.bel
          have d0 := (hBw.cell (p := ⟨b, off + j * 4, .none⟩) hb).trans c0
          have d1 := (hBw.cell (p := ⟨b, off + j * 4 + 1, .none⟩) hb).trans c1
          have d2 := (hBw.cell (p := ⟨b, off + j * 4 + 2, .none⟩) hb).trans c2
          have d3 := (hBw.cell (p := ⟨b, off + j * 4 + 3, .none⟩) hb).trans c3
          have hze := (unhide HS) e (List.mem_of_getElem? he)
          have hlt := hK.srcs.lt
          have hlk : ∀ o, (Instr.lookup 63 (.map (some wa.heap.size)) (.string e.id) true).run Tryf.prog (wr.alloc o) = .ok (.tuple #[((look (E.take j) e.id).map (fun e => Value.string e.src)).getD (.string ByteArray.empty), .bool ((look (E.take j) e.id).map (fun e => Value.string e.src)).isSome]) (wr.alloc o) := fun o =>
            (hK.srcs.of_block (Below.heap_alloc _ _ _ hlt)).lookOk Tryf.underlying63 (zero9 _) e.id hze.1
          have q5 := tl_nil e.id
          have hIr : VM wr w.heap.size k (fun s => (ix (N.map Nd.id) s).map iv) := (unhide HX).2.1.of_block (hK.bel.block _ hil)
          have hwl : w.heap.size < wr.heap.size := hIr.lt
          have HK := hide hK
          have HY := hide (And.intro he (And.intro hze (And.intro hBw hIr)))
          clear hK he hze hBw hIr c0 c1 c2 c3
          by_cases h2 : e.id.size = 0
          · have HV : Hid (¬ Valid N E) := hide (fun h => V2.bad (unhide HY).1 (.inl h2) h.2.1)
            rw [decide_eq_true h2] at q5
            clear h2 hlk
            go_wp2_with fail
            go_ret
            exact Says.no (unhide HV) ((unhide HY).2.2.1.alloc (unhide HY).2.2.1.size _)
          · rw [decide_eq_false h2] at q5
            have H2 := hide h2
            clear h2
            cases hlo : look (E.take j) e.id with
            | some e0 =>
              have HV : Hid (¬ Valid N E) := hide (fun h => V2.bad (unhide HY).1 (.inr (.inr (.inr ((look_some e.id).1 (by rw [hlo]; rfl))))) h.2.1)
              rw [hlo] at hlk
              simp only [Option.map_some, Option.getD_some, Option.isSome_some] at hlk
              clear hlo
              go_wp2_with fail
              go_ret
              exact Says.no (unhide HV) ((unhide HY).2.2.1.alloc (unhide HY).2.2.1.size _)
            | none =>
              have hni : e.id ∉ (E.take j).map Ed.id := fun h => by
                have := (look_some e.id).2 h
                rw [hlo] at this
                cases this
              rw [hlo] at hlk
              simp only [Option.map_none, Option.getD_none, Option.isSome_none] at hlk
              have HNI := hide hni
              clear hlo hni
              cases ha : ix (N.map Nd.id) e.src with
              | none =>
                have HV : Hid (¬ Valid N E) := hide (fun h => V2.bad (unhide HY).1 (.inr (.inl (fun h6 => by have h7 := ix_mem.2 h6; rw [ha] at h7; cases h7))) h.2.1)
                have HA := hide ha
                clear ha
                cases hb2 : ix (N.map Nd.id) e.dst with
                | none =>
                  have HB := hide hb2
                  clear hb2
                  go_wp2_with (at_mapUpdate; refine wpList_up _ (by rfl) _ _ _ 63 (by rfl) 9 Tryf.underlying63 wa.heap.size j (fun s => (look (E.take j) s).map (fun e => .string e.src)) (by rfl) ((unhide HK).srcs.of_block (Below.heap_alloc _ _ _ hlt)) (by unfold maxLen; omega) e.id (.string e.src) (by rfl) (by rfl) (unhide HY).2.1.1 ?_; intro w4 hVM4 hg4; have hs4 : wr.heap.size + 1 ≤ w4.heap.size := (by have h5 := hg4.size; simp at h5; omega); have y1 : w4.cell? ⟨wr.heap.size, 1, .none⟩ = some (.string e.src) := (hg4.cell_far _ (by simp) (by simp; omega)).trans (by rw [World.cell?_alloc_at (hn := by simp)]; rfl); have y2 : w4.cell? ⟨wr.heap.size, 2, .none⟩ = some (.string e.dst) := (hg4.cell_far _ (by simp) (by simp; omega)).trans (by rw [World.cell?_alloc_at (hn := by simp)]; rfl); have hI4 : VM w4 w.heap.size k (fun s => (ix (N.map Nd.id) s).map iv) := (unhide HY).2.2.2.of_block ((hg4.block _ (by simp; omega) (by simp; omega)).trans (Below.heap_alloc _ _ _ (by omega))); have hls := hI4.lookOk Tryf.underlying60 (zero3 w4) e.src (unhide HY).2.1.2.1; have hld := hI4.lookOk Tryf.underlying60 (zero3 w4) e.dst (unhide HY).2.1.2.2; have HV4 := hide hVM4; clear hVM4 hI4; rw [unhide HA] at hls; rw [unhide HB] at hld; simp only [Option.map_none, Option.getD_none, Option.isSome_none] at hls hld)
                  go_ret
                  exact Says.no (unhide HV) (((unhide HY).2.2.1.alloc (unhide HY).2.2.1.size _).grown hg4 (by have := (unhide HY).2.2.1.size; simp; omega) (fun i hi => by injection hi with hi; omega))
                | some b2 =>
                  have HB := hide hb2
                  clear hb2
                  go_wp2_with (at_mapUpdate; refine wpList_up _ (by rfl) _ _ _ 63 (by rfl) 9 Tryf.underlying63 wa.heap.size j (fun s => (look (E.take j) s).map (fun e => .string e.src)) (by rfl) ((unhide HK).srcs.of_block (Below.heap_alloc _ _ _ hlt)) (by unfold maxLen; omega) e.id (.string e.src) (by rfl) (by rfl) (unhide HY).2.1.1 ?_; intro w4 hVM4 hg4; have hs4 : wr.heap.size + 1 ≤ w4.heap.size := (by have h5 := hg4.size; simp at h5; omega); have y1 : w4.cell? ⟨wr.heap.size, 1, .none⟩ = some (.string e.src) := (hg4.cell_far _ (by simp) (by simp; omega)).trans (by rw [World.cell?_alloc_at (hn := by simp)]; rfl); have y2 : w4.cell? ⟨wr.heap.size, 2, .none⟩ = some (.string e.dst) := (hg4.cell_far _ (by simp) (by simp; omega)).trans (by rw [World.cell?_alloc_at (hn := by simp)]; rfl); have hI4 : VM w4 w.heap.size k (fun s => (ix (N.map Nd.id) s).map iv) := (unhide HY).2.2.2.of_block ((hg4.block _ (by simp; omega) (by simp; omega)).trans (Below.heap_alloc _ _ _ (by omega))); have hls := hI4.lookOk Tryf.underlying60 (zero3 w4) e.src (unhide HY).2.1.2.1; have hld := hI4.lookOk Tryf.underlying60 (zero3 w4) e.dst (unhide HY).2.1.2.2; have HV4 := hide hVM4; clear hVM4 hI4; rw [unhide HA] at hls; rw [unhide HB] at hld; simp only [Option.map_none, Option.getD_none, Option.isSome_none, Option.map_some, Option.getD_some, Option.isSome_some, iv] at hls hld)
                  go_ret
                  exact Says.no (unhide HV) (((unhide HY).2.2.1.alloc (unhide HY).2.2.1.size _).grown hg4 (by have := (unhide HY).2.2.1.size; simp; omega) (fun i hi => by injection hi with hi; omega))
              | some a =>
                have HA := hide ha
                clear ha
                cases hb2 : ix (N.map Nd.id) e.dst with
                | none =>
                  have HV : Hid (¬ Valid N E) := hide (fun h => V2.bad (unhide HY).1 (.inr (.inr (.inl (fun h6 => by have h7 := ix_mem.2 h6; rw [hb2] at h7; cases h7)))) h.2.1)
                  have HB := hide hb2
                  clear hb2
                  go_wp2_with (at_mapUpdate; refine wpList_up _ (by rfl) _ _ _ 63 (by rfl) 9 Tryf.underlying63 wa.heap.size j (fun s => (look (E.take j) s).map (fun e => .string e.src)) (by rfl) ((unhide HK).srcs.of_block (Below.heap_alloc _ _ _ hlt)) (by unfold maxLen; omega) e.id (.string e.src) (by rfl) (by rfl) (unhide HY).2.1.1 ?_; intro w4 hVM4 hg4; have hs4 : wr.heap.size + 1 ≤ w4.heap.size := (by have h5 := hg4.size; simp at h5; omega); have y1 : w4.cell? ⟨wr.heap.size, 1, .none⟩ = some (.string e.src) := (hg4.cell_far _ (by simp) (by simp; omega)).trans (by rw [World.cell?_alloc_at (hn := by simp)]; rfl); have y2 : w4.cell? ⟨wr.heap.size, 2, .none⟩ = some (.string e.dst) := (hg4.cell_far _ (by simp) (by simp; omega)).trans (by rw [World.cell?_alloc_at (hn := by simp)]; rfl); have hI4 : VM w4 w.heap.size k (fun s => (ix (N.map Nd.id) s).map iv) := (unhide HY).2.2.2.of_block ((hg4.block _ (by simp; omega) (by simp; omega)).trans (Below.heap_alloc _ _ _ (by omega))); have hls := hI4.lookOk Tryf.underlying60 (zero3 w4) e.src (unhide HY).2.1.2.1; have hld := hI4.lookOk Tryf.underlying60 (zero3 w4) e.dst (unhide HY).2.1.2.2; have HV4 := hide hVM4; clear hVM4 hI4; rw [unhide HA] at hls; rw [unhide HB] at hld; simp only [Option.map_none, Option.getD_none, Option.isSome_none, Option.map_some, Option.getD_some, Option.isSome_some, iv] at hls hld)
                  go_ret
                  exact Says.no (unhide HV) (((unhide HY).2.2.1.alloc (unhide HY).2.2.1.size _).grown hg4 (by have := (unhide HY).2.2.1.size; simp; omega) (fun i hi => by injection hi with hi; omega))
                | some b2 =>
                  have HB := hide hb2
                  clear hb2
                  have hak : a < k := by have := (ix_some (unhide HA)).1; rw [← HN.out]; simpa using this
                  have hbk : b2 < k := by have := (ix_some (unhide HB)).1; rw [← HN.out]; simpa using this
                  have hakI : (a : Int) < (k : Int) := by omega
                  have hbkI : (b2 : Int) < (k : Int) := by omega
                  have hle := (unhide HK).le b2 hbk
                  have hal : (adjOf (N.map Nd.id) (E.take j) a).length ≤ 65536 := Nat.le_trans (adj_len _ _ _) (by simp; omega)
                  obtain ⟨i0, hi0, hz0, hz1, hz2⟩ := info_parts Tryf.info3
                  go_wp2_with (first
                    | (at_mapUpdate; refine wpList_up _ (by rfl) _ _ _ 63 (by rfl) 9 Tryf.underlying63 wa.heap.size j (fun s => (look (E.take j) s).map (fun e => .string e.src)) (by rfl) ((unhide HK).srcs.of_block (Below.heap_alloc _ _ _ hlt)) (by unfold maxLen; omega) e.id (.string e.src) (by rfl) (by rfl) (unhide HY).2.1.1 ?_; intro w4 hVM4 hg4; have hs4 : wr.heap.size + 1 ≤ w4.heap.size := (by have h5 := hg4.size; simp at h5; omega); have y1 : w4.cell? ⟨wr.heap.size, 1, .none⟩ = some (.string e.src) := (hg4.cell_far _ (by simp) (by simp; omega)).trans (by rw [World.cell?_alloc_at (hn := by simp)]; rfl); have y2 : w4.cell? ⟨wr.heap.size, 2, .none⟩ = some (.string e.dst) := (hg4.cell_far _ (by simp) (by simp; omega)).trans (by rw [World.cell?_alloc_at (hn := by simp)]; rfl); have hI4 : VM w4 w.heap.size k (fun s => (ix (N.map Nd.id) s).map iv) := (unhide HY).2.2.2.of_block ((hg4.block _ (by simp; omega) (by simp; omega)).trans (Below.heap_alloc _ _ _ (by omega))); have hls := hI4.lookOk Tryf.underlying60 (zero3 w4) e.src (unhide HY).2.1.2.1; have hld := hI4.lookOk Tryf.underlying60 (zero3 w4) e.dst (unhide HY).2.1.2.2; have HV4 := hide hVM4; clear hVM4 hI4; rw [unhide HA] at hls; rw [unhide HB] at hld; simp only [Option.map_some, Option.getD_some, Option.isSome_some, iv] at hls hld; obtain ⟨m1, m2, m3⟩ := (unhide HK).mid hg4; have z1 := m2.row.cell (i := a) hak; have hA4 := m2.row.lt; have HM4 := hide (And.intro m1 m2); clear m1 m2 m3)
                    | (at_builtin; refine wpList_append_lies _ (by rfl) _ _ _ (by rfl) (wa.heap.size + 3) 3 i0 _ 1 8 Tryf.underlying64 hi0 hz0 hz1 hz2 rfl (by omega) (V a) (adjOf (N.map Nd.id) (E.take j) a).length ((adjOf (N.map Nd.id) (E.take j) a).map iv) (by rfl) (((unhide HM4).2.own a hak).alloc _) ⟨w4.heap.size, 0, .none⟩ 1 1 [iv b2] (by rfl) (by rfl) (World.news_of_block (cs := #[iv b2]) (t := 3) (fr := (0, 0)) (heap_alloc_new w4 _)) (by simp [Value.oneCell', iv]) (by omega) (by unfold maxLen; omega) (by omega) (by simp; omega) (w4.heap.size + 1) (by simp) ?_; intro g6 cap6 w6 hown6 hgrow6 hat6 hlt6; have hvb : ∀ q, (V a).ownBlock = some q → wa.heap.size + 3 ≤ q := (fun q hq => (((unhide HM4).2.own a hak).lt q hq).1); have r6 : w6.rowIs (wa.heap.size + 2) 64 k V := ((unhide HM4).2.row.alloc _).of_block (hgrow6.block _ (by simp; omega) (fun e => by have := hvb _ e.symm; omega)); have i6 : w6.rowIs (wa.heap.size + 1) 3 k (fun u => iv (I u)) := ((unhide HM4).1.alloc _).of_block (hgrow6.block _ (by simp; omega) (fun e => by have := hvb _ e.symm; omega)); have z2 := r6.cell (i := a) hak; have z3 := r6.frozen a; have z4 : w6.cell? ⟨wa.heap.size + 1, b2, .none⟩ = some (.int .i64 (I b2 : Int)) := i6.cell (i := b2) hbk; have z5 := i6.frozen b2; clear r6 i6 hvb))
                  go_roundg (m + 1 - (j + 1))
                  case measure => omega
                  case rel => exact ⟨j + 1, _, _, rfl, by omega, by go_num, (unhide HK).step (unhide HY).1 (unhide H2) (unhide HNI) (unhide HA) (unhide HB) hak hbk hg4 (unhide HV4) hown6 hgrow6 (by simpa using hat6)⟩
        · obtain rfl : j = m := by omega
          have htm : E.take j = E := List.take_of_length_le (by rw [HM.out]; exact Nat.le_refl _)
          obtain ⟨wb, hwb⟩ : ∃ wb, wb = wr := ⟨_, rfl⟩
          subst hwb
          have HK := hide hK
          clear hK
          obtain ⟨i0, hi0, hz0, hz1, hz2⟩ := info_parts Tryf.info3
          go_wp2_with ((at_make; refine wpList_make_own (P := Tryf.prog) _ (by rfl) _ _ 64 (by rfl) wb.heap.size 3 i0 _ 1 Tryf.underlying64 hi0 hz0 hz1 .i64 .i64 (k : Int) k (by rfl) (by rfl) rfl (by rw [hz2]; omega) (by unfold maxLen; omega) (Nat.le_refl _) ?_; intro w7 hq7 hg7))
          go_loopg [20, 21] (k + 1) (fun g v20 v21 wr => ∃ (i : Nat), g = k + 1 - i ∧ i ≤ k ∧ v21 = .int .i64 i ∧ wr.ownsRow wb.heap.size 3 1 v20 ((List.range i).filter (fun v => decide (I v = 0))).length (((List.range i).filter (fun v => decide (I v = 0))).map iv) ∧ Below wb.heap.size wb wr)
          case atStart => exact ⟨0, rfl, Nat.zero_le _, rfl, hq7, (Below.refl _ wb).grown hg7 (Nat.le_refl _) (fun i hi => by cases hi)⟩
          case round =>
            obtain ⟨i, rfl, hi, rfl, hq, hB3⟩ := hrel
            by_cases h3 : i < k
            · have d0 : wr.cell? ⟨wa.heap.size + 1, i, .none⟩ = some (.int .i64 (I i : Int)) := (hB3.cell (p := ⟨wa.heap.size + 1, i, .none⟩) (unhide HK).ind.lt).trans ((unhide HK).ind.cell (i := i) h3)
              have hle := (unhide HK).le i h3
              have hki : (i : Int) < (k : Int) := by omega
              have hfl : ((List.range i).filter (fun v => decide (I v = 0))).length ≤ 65536 := Nat.le_trans (List.length_filter_le _ _) (by simp; omega)
              have hbs := hB3.size
              have HQ := hide (And.intro hq hB3)
              clear hq hB3
              by_cases h4 : I i = 0
              · have H4 := hide h4
                rw [h4] at d0
                clear h4
                go_wp2_with ((at_builtin; refine wpList_append_lies _ (by rfl) _ _ _ (by rfl) wb.heap.size 3 i0 _ 1 8 Tryf.underlying64 hi0 hz0 hz1 hz2 rfl (by omega) _ ((List.range i).filter (fun v => decide (I v = 0))).length (((List.range i).filter (fun v => decide (I v = 0))).map iv) (by rfl) ((unhide HQ).1.alloc _) ⟨wr.heap.size, 0, .none⟩ 1 1 [iv i] (by rfl) (by rfl) (World.news_of_block (cs := #[iv i]) (t := 3) (fr := (0, 0)) (heap_alloc_new wr _)) (by simp [Value.oneCell', iv]) (by omega) (by unfold maxLen; omega) (by omega) (by simp; omega) (wr.heap.size + 1) (by simp) ?_; intro g6 cap6 w6 hown6 hgrow6 hat6 hlt6))
                go_roundg (k + 1 - (i + 1))
                case measure => omega
                case rel =>
                  refine ⟨i + 1, rfl, by omega, by go_num, ?_, ?_⟩
                  · rw [List.range_succ, List.filter_append]
                    have h5 : [i].filter (fun v => decide (I v = 0)) = [i] := by simp [unhide H4]
                    rw [h5, List.length_append, List.map_append]
                    exact hown6
                  · exact ((unhide HQ).2.alloc hbs _).grown hgrow6 (by simp; omega) (fun q hq => ((unhide HQ).1.lt q hq).1)
              · have H4 := hide h4
                have hne : ((I i : Int) == 0) = false := by rw [beq_eq_false_iff_ne]; omega
                clear h4
                go_wp2_with fail
                go_roundg (k + 1 - (i + 1))
                case measure => omega
                case rel =>
                  refine ⟨i + 1, rfl, by omega, by go_num, ?_, (unhide HQ).2⟩
                  rw [List.range_succ, List.filter_append]
                  have h5 : [i].filter (fun v => decide (I v = 0)) = [] := by simp [unhide H4]
                  rw [h5, List.append_nil]
                  exact (unhide HQ).1
            · obtain rfl : i = k := by omega
              have hKs : Kahn i (adjOf (N.map Nd.id) E) (adjOf (N.map Nd.id) E) ((List.range i).filter (fun v => decide (I v = 0))) I := by
                have h5 := (unhide HK).cnt
                rw [htm] at h5
                refine Kahn.start h5 (fun u hu v hv => ?_)
                obtain ⟨e, _, _, h6⟩ := adj_mem.1 hv
                have := (ix_some h6).1
                rw [← HN.out]
                simpa using this
              have hMs := Km.start hq hB3 (unhide HK).ind (fun u hu => Nat.le_trans ((unhide HK).le u hu) (by omega))
              have hAb := (unhide HK).adj
              rw [htm] at hAb
              have HAB := hide hAb
              have HKS := hide (And.intro hKs hMs)
              clear hKs hMs hq hB3 hAb hq7 hg7
              go_wp2_with fail
              go_loopg [20, 22] (i + 1) (fun g v20 v22 wr => ∃ (h : Nat) (q : List Nat) (rem : Nat → List Nat) (J : Nat → Nat), g = i + 1 - h ∧ h ≤ q.length ∧ v22 = .int .i64 h ∧ Kahn i (adjOf (N.map Nd.id) E) rem q J ∧ (∀ u ∈ q.take h, rem u = []) ∧ (∀ u, u < i → u ∉ q.take h → rem u = adjOf (N.map Nd.id) E u) ∧ Km wb wr (wa.heap.size + 1) i q J v20)
              case atStart => exact ⟨0, _, _, _, rfl, Nat.zero_le _, rfl, (unhide HKS).1, fun u hu => by simp at hu, fun u _ _ => rfl, (unhide HKS).2⟩
              case round =>
                obtain ⟨h, q, rem, J, rfl, hh, rfl, hKa, hdone, hrest, hKm⟩ := hrel
                have hqn := hKa.room
                by_cases h4 : h < q.length
                · obtain ⟨u, hu⟩ := at_some q h h4
                  have huq : u ∈ q := List.mem_of_getElem? hu
                  have hun : u < i := hKa.lt u huq
                  have hut : u ∉ q.take h := fun hm => by
                    have h5 := hKa.nod
                    rw [← List.take_append_drop h q, List.nodup_append] at h5
                    refine h5.2.2 u hm u ?_ rfl
                    rw [List.drop_eq_getElem_cons h4, (List.getElem?_eq_some_iff.1 hu).2]
                    exact List.mem_cons_self
                  obtain ⟨gq, capq, rfl⟩ := hKm.form (by omega)
                  have z0 : wr.cell? ⟨gq, h, .none⟩ = some (.int .i64 (u : Int)) := by
                    rw [World.ownsRow.cellAt hKm.que h (by omega), List.getElem?_map, hu]
                    rfl
                  have hhI : (h : Int) < (q.length : Int) := by omega
                  have huI : (u : Int) < (i : Int) := by omega
                  have hru := hrest u hun hut
                  have hlA : (adjOf (N.map Nd.id) E u).length ≤ 65536 := Nat.le_trans (adj_len _ _ _) (by rw [HM.out]; exact hm)
                  have HQ := hide (And.intro hKa (And.intro hdone (And.intro hrest (And.intro hKm (And.intro hu hru)))))
                  clear hKa hdone hrest hKm hu hru
                  go_wp2_with fail
                  go_loopg [20, 24] ((adjOf (N.map Nd.id) E u).length + 1) (fun g v20 v24 wr => ∃ (t : Nat) (r : List Nat) (rem' : Nat → List Nat) (J' : Nat → Nat), g = (adjOf (N.map Nd.id) E u).length + 1 - t ∧ t ≤ (adjOf (N.map Nd.id) E u).length ∧ v24 = .int .i64 t ∧ Kahn i (adjOf (N.map Nd.id) E) rem' (q ++ r) J' ∧ (∀ y ∈ q.take h, rem' y = []) ∧ rem' u = (adjOf (N.map Nd.id) E u).drop t ∧ (∀ y, y < i → y ∉ q.take h → y ≠ u → rem' y = adjOf (N.map Nd.id) E y) ∧ Km wb wr (wa.heap.size + 1) i (q ++ r) J' v20)
                  case atStart =>
                    obtain ⟨x1, x2, x3, x4, x5, x6⟩ := unhide HQ
                    exact ⟨0, [], rem, J, rfl, Nat.zero_le _, rfl, by rw [List.append_nil]; exact x1, x2, by rw [x6]; rfl, fun y h5 h6 _ => x3 y h5 h6, by rw [List.append_nil]; exact x4⟩
                  case round =>
                    obtain ⟨t, r, rem', J', rfl, ht, rfl, hKa, hdone, hcur, hrest, hKm⟩ := hrel
                    have hA5 := hKm.adj (unhide HAB) (by omega) (by omega)
                    obtain ⟨a5, cap5, hv5⟩ := own_form (hA5.own u hun)
                    have z1 : wr.cell? ⟨wa.heap.size + 2, u, .none⟩ = some (.slice a5 (adjOf (N.map Nd.id) E u).length cap5) := by rw [← hv5]; exact hA5.row.cell (i := u) hun
                    by_cases h5 : t < (adjOf (N.map Nd.id) E u).length
                    · obtain ⟨x, hx⟩ := at_some (adjOf (N.map Nd.id) E u) t h5
                      have hdr : rem' u = x :: (adjOf (N.map Nd.id) E u).drop (t + 1) := by
                        rw [hcur, List.drop_eq_getElem_cons h5, (List.getElem?_eq_some_iff.1 hx).2]
                      have hxn : x < i := hKa.vals u hun x (by rw [hdr]; exact List.mem_cons_self)
                      have hx0 : J' x ≠ 0 := fun h6 => by
                        rw [hKa.ind x hxn] at h6
                        exact (cnt_zero i).1 h6 u hun (by rw [hdr]; exact List.mem_cons_self)
                      obtain ⟨g5, rfl⟩ : ∃ g5, a5 = some ⟨g5, 0, .none⟩ := by
                        obtain ⟨_, ⟨_, h6⟩ | ⟨g, cap, cur, hv, _⟩⟩ := hA5.own u hun
                        · omega
                        · rw [hv5] at hv
                          simp only [Value.slice.injEq] at hv
                          exact ⟨g, hv.1⟩
                      have z2 : wr.cell? ⟨g5, t, .none⟩ = some (.int .i64 (x : Int)) := by
                        have h6 := hA5.own u hun
                        rw [hv5] at h6
                        rw [World.ownsRow.cellAt h6 t (by omega), List.getElem?_map, hx]
                        rfl
                      have z3 : wr.cell? ⟨wa.heap.size + 1, x, .none⟩ = some (.int .i64 (J' x : Int)) := hKm.ind.cell (i := x) hxn
                      have z4 := hKm.ind.frozen x
                      have hjl := hKm.le x hxn
                      have hxI : (x : Int) < (i : Int) := by omega
                      have htI : (t : Int) < ((adjOf (N.map Nd.id) E u).length : Int) := by omega
                      have HW := hide (And.intro hKa (And.intro hdone (And.intro hdr (And.intro hrest (And.intro hKm (And.intro hx0 hxn))))))
                      clear hKa hdone hdr hrest hKm hA5 hcur hx
                      have huqr : u ∈ q ++ r := List.mem_append_left _ huq
                      by_cases h6 : J' x = 1
                      · have hb1 : (((J' x : Int) - 1) == 0) = true := by rw [beq_iff_eq]; omega
                        have H6 := hide h6
                        have hrl : (q ++ r).length ≤ 65536 := Nat.le_trans (unhide HW).1.room hn
                        have hM5 := (unhide HW).2.2.2.2.1.dec hx0
                        have hms := hM5.size
                        have HM5 := hide hM5
                        clear h6 hM5
                        go_wp2_with ((at_builtin; refine wpList_append_lies _ (by rfl) _ _ _ (by rfl) wb.heap.size 3 i0 _ 1 8 Tryf.underlying64 hi0 hz0 hz1 hz2 rfl (by omega) _ (q ++ r).length ((q ++ r).map iv) (by rfl) ((unhide HM5).que.alloc _) ⟨wr.heap.size, 0, .none⟩ 1 1 [iv x] (by rfl) (by rfl) (World.news_of_block (cs := #[iv x]) (t := 3) (fr := (0, 0)) (by have h9 := heap_alloc_new (wr.setCell ⟨wa.heap.size + 1, x, .none⟩ (.int .i64 ((J' x : Int) - 1))) (.cells #[iv x] 3); simpa [iv] using h9)) (by simp [Value.oneCell', iv]) (by omega) (by unfold maxLen; omega) (by omega) (by simp at hms ⊢; omega) (wr.heap.size + 1) (by simp) ?_; intro g6 cap6 w6 hown6 hgrow6 hat6 hlt6))
                        go_roundg ((adjOf (N.map Nd.id) E u).length + 1 - (t + 1))
                        case measure => omega
                        case rel =>
                          obtain ⟨x1, x2, x3, x4, x5, x6, x7⟩ := unhide HW
                          refine ⟨t + 1, r ++ [x], _, _, rfl, by omega, by go_num, by rw [← List.append_assoc]; exact x1.push hun huqr x3 (unhide H6), fun y hy => ?_, ?_, fun y h7 h8 h9 => ?_, by rw [← List.append_assoc]; have h10 := (unhide HM5).push hown6 hgrow6; rw [List.length_append] at h10; exact h10⟩
                          · have : y ≠ u := fun e => hut (e ▸ hy)
                            unfold turn
                            rw [if_neg this]
                            exact x2 y hy
                          · unfold turn
                            rw [if_pos rfl]
                          · unfold turn
                            rw [if_neg h9]
                            exact x4 y h7 h8 h9
                      · have hb1 : (((J' x : Int) - 1) == 0) = false := by rw [beq_eq_false_iff_ne]; omega
                        have H6 := hide h6
                        clear h6
                        go_wp2_with fail
                        go_roundg ((adjOf (N.map Nd.id) E u).length + 1 - (t + 1))
                        case measure => omega
                        case rel =>
                          obtain ⟨x1, x2, x3, x4, x5, x6, x7⟩ := unhide HW
                          refine ⟨t + 1, r, _, _, rfl, by omega, by go_num, x1.keep hun huqr x3 (unhide H6), fun y hy => ?_, ?_, fun y h7 h8 h9 => ?_, x5.dec x6⟩
                          · have : y ≠ u := fun e => hut (e ▸ hy)
                            unfold turn
                            rw [if_neg this]
                            exact x2 y hy
                          · unfold turn
                            rw [if_pos rfl]
                          · unfold turn
                            rw [if_neg h9]
                            exact x4 y h7 h8 h9
                    · have HW := hide (And.intro hKa (And.intro hdone (And.intro hcur (And.intro hrest hKm))))
                      clear hKa hdone hcur hrest hKm hA5
                      go_wp2_with fail
                      go_roundg (i + 1 - (h + 1))
                      case measure => omega
                      case rel =>
                        obtain ⟨x1, x2, x3, x4, x5⟩ := unhide HW
                        have hrl := x1.room
                        have htk : (q ++ r).take (h + 1) = q.take h ++ [u] := by
                          rw [List.take_append_of_le_length (by omega), List.take_add_one, (unhide HQ).2.2.2.2.1]
                          rfl
                        refine ⟨h + 1, q ++ r, rem', J', rfl, by rw [List.length_append]; omega, by go_num, x1, ?_, ?_, x5⟩
                        · intro y hy
                          rw [htk] at hy
                          rcases List.mem_append.1 hy with h6 | h6
                          · exact x2 y h6
                          · simp at h6
                            subst h6
                            rw [x3, List.drop_of_length_le (by omega)]
                        · intro y hy1 hy2
                          rw [htk] at hy2
                          simp only [List.mem_append, List.mem_singleton, not_or] at hy2
                          exact x4 y hy1 hy2.1 hy2.2
                · have htk : q.take h = q := List.take_of_length_le (by omega)
                  rw [htk] at hdone
                  have hVv := (unhide HK).v2
                  rw [htm] at hVv
                  have hids : (N.map Nd.id).length = i := by rw [List.length_map]; exact HN.out
                  have hBc : Below w.heap.size w wr := hKm.below (bthen (unhide HX).2.2 (unhide HK).bel) (by have := (unhide HX).2.2.size; omega)
                  have hSr : VM wr wa.heap.size j (fun s => (look E s).map (fun e => .string e.src)) := by
                    have h7 := (unhide HK).srcs
                    rw [htm] at h7
                    exact h7.of_block (hKm.block _ h7.lt (by omega))
                  obtain ⟨aq, cq, hv⟩ := own_form hKm.que
                  have hKi : Kahn (N.map Nd.id).length (adjOf (N.map Nd.id) E) rem q J := by rw [hids]; exact hKa
                  by_cases h6 : q.length = i
                  · have hAc : Acyc E := acyc_full (fun e he => (hVv.1 e he).2) hKi (by omega)
                    rw [h6] at hv
                    subst hv
                    have HZ := hide (And.intro hVv (And.intro hAc (And.intro hSr hBc)))
                    clear hKa hKi hdone hrest hKm hVv hAc hSr hBc hids htk
                    obtain ⟨wc, hwc⟩ : ∃ wc, wc = wr := ⟨_, rfl⟩
                    subst hwc
                    have hhi : h = i := by omega
                    subst hhi
                    clear h6 h4 hqn
                    go_wp2_with fail
                    go_loopg [26] (h + 1) (fun g v26 wr => ∃ (t : Nat), g = h + 1 - t ∧ t ≤ h ∧ v26 = .int .i64 t ∧ (∀ nd ∈ N.take t, polOK E nd ∧ retOK nd) ∧ Below wc.heap.size wc wr)
                    case atStart => exact ⟨0, rfl, Nat.zero_le _, rfl, fun nd hd => by simp at hd, Below.refl _ _⟩
                    case round =>
                      obtain ⟨t, rfl, ht, rfl, hV, hB6⟩ := hrel
                      by_cases h7 : t < h
                      · obtain ⟨nd, hnd⟩ := at_some N t (by rw [HN.out]; exact h7)
                        obtain ⟨ok, b, off, rfl, hb, c0, c1, c2, c3, c4, c5, c6, c7, c8⟩ := (unhide HP) t nd hnd
                        have hBw := bthen (unhide HZ).2.2.2 hB6
                        have f0 := (hBw.cell (p := ⟨b, off + t * 9, .none⟩) hb).trans c0
                        have f1 := (hBw.cell (p := ⟨b, off + t * 9 + 1, .none⟩) hb).trans c1
                        have f2 := (hBw.cell (p := ⟨b, off + t * 9 + 2, .none⟩) hb).trans c2
                        have f3 := (hBw.cell (p := ⟨b, off + t * 9 + 3, .none⟩) hb).trans c3
                        have f4 := (hBw.cell (p := ⟨b, off + t * 9 + 4, .none⟩) hb).trans c4
                        have f5 := (hBw.cell (p := ⟨b, off + t * 9 + 5, .none⟩) hb).trans c5
                        have f6 := (hBw.cell (p := ⟨b, off + t * 9 + 6, .none⟩) hb).trans c6
                        have f7 := (hBw.cell (p := ⟨b, off + t * 9 + 7, .none⟩) hb).trans c7
                        have f8 := (hBw.cell (p := ⟨b, off + t * 9 + 8, .none⟩) hb).trans c8
                        have hbr : b < wr.heap.size := Nat.lt_of_lt_of_le hb hBw.size
                        have okr := ok.mono hBw
                        have C16 := zzPolicy nd wr E wa.heap.size j okr ((unhide HZ).2.2.1.below hB6)
                        have C17 := fun (W : World) (hB : Below wr.heap.size wr W) => zzRetry nd W (okr.mono hB)
                        unfold ndv at C16 C17
                        have HC := hide (And.intro C16 C17)
                        have HF := hide (And.intro f0 (And.intro f1 (And.intro f2 (And.intro f3 (And.intro f4 (And.intro f5 (And.intro f6 (And.intro f7 f8))))))))
                        have HT := hide (And.intro hnd (And.intro hV (And.intro hB6 hBw)))
                        clear C16 C17 hnd hV hB6 hBw ok okr c0 c1 c2 c3 c4 c5 c6 c7 c8
                        by_cases hp : polOK E nd
                        · have HPo := hide hp
                          clear hp
                          by_cases hr : retOK nd
                          · have HR := hide hr
                            clear hr
                            go_wp2_with (first
                              | (go_at_call 16; refine (unhide HC).1.mono ?_; rintro e w1 ⟨b1, rfl, hb1, hB1⟩; obtain rfl : b1 = true := hb1.2 (unhide HPo); clear hb1; have e0 := (hB1.cell (p := ⟨b, off + t * 9, .none⟩) hbr).trans (unhide HF).1; have e1 := (hB1.cell (p := ⟨b, off + t * 9 + 1, .none⟩) hbr).trans (unhide HF).2.1; have e2 := (hB1.cell (p := ⟨b, off + t * 9 + 2, .none⟩) hbr).trans (unhide HF).2.2.1; have e3 := (hB1.cell (p := ⟨b, off + t * 9 + 3, .none⟩) hbr).trans (unhide HF).2.2.2.1; have e4 := (hB1.cell (p := ⟨b, off + t * 9 + 4, .none⟩) hbr).trans (unhide HF).2.2.2.2.1; have e5 := (hB1.cell (p := ⟨b, off + t * 9 + 5, .none⟩) hbr).trans (unhide HF).2.2.2.2.2.1; have e6 := (hB1.cell (p := ⟨b, off + t * 9 + 6, .none⟩) hbr).trans (unhide HF).2.2.2.2.2.2.1; have e7 := (hB1.cell (p := ⟨b, off + t * 9 + 7, .none⟩) hbr).trans (unhide HF).2.2.2.2.2.2.2.1; have e8 := (hB1.cell (p := ⟨b, off + t * 9 + 8, .none⟩) hbr).trans (unhide HF).2.2.2.2.2.2.2.2)
                              | (go_at_call 17; refine ((unhide HC).2 _ hB1).mono ?_; rintro e w2 ⟨b1, rfl, hb1, hB2⟩; obtain rfl : b1 = true := hb1.2 (unhide HR); clear hb1))
                            go_roundg (h + 1 - (t + 1))
                            case measure => omega
                            case rel =>
                              obtain ⟨x1, x2, x3, x4⟩ := unhide HT
                              refine ⟨t + 1, rfl, by omega, by go_num, fun n hn => ?_, bthen x3 (bthen hB1 hB2)⟩
                              rw [List.take_add_one, x1] at hn
                              rcases List.mem_append.1 hn with h9 | h9
                              · exact x2 n h9
                              · simp at h9
                                subst h9
                                exact ⟨unhide HPo, unhide HR⟩
                          · have HV : Hid (¬ Valid N E) := hide (fun h9 => hr (h9.2.2.2 nd (List.mem_of_getElem? (unhide HT).1)).2)
                            have HR := hide hr
                            clear hr
                            go_wp2_with (first
                              | (go_at_call 16; refine (unhide HC).1.mono ?_; rintro e w1 ⟨b1, rfl, hb1, hB1⟩; obtain rfl : b1 = true := hb1.2 (unhide HPo); clear hb1; have e0 := (hB1.cell (p := ⟨b, off + t * 9, .none⟩) hbr).trans (unhide HF).1; have e1 := (hB1.cell (p := ⟨b, off + t * 9 + 1, .none⟩) hbr).trans (unhide HF).2.1; have e2 := (hB1.cell (p := ⟨b, off + t * 9 + 2, .none⟩) hbr).trans (unhide HF).2.2.1; have e3 := (hB1.cell (p := ⟨b, off + t * 9 + 3, .none⟩) hbr).trans (unhide HF).2.2.2.1; have e4 := (hB1.cell (p := ⟨b, off + t * 9 + 4, .none⟩) hbr).trans (unhide HF).2.2.2.2.1; have e5 := (hB1.cell (p := ⟨b, off + t * 9 + 5, .none⟩) hbr).trans (unhide HF).2.2.2.2.2.1; have e6 := (hB1.cell (p := ⟨b, off + t * 9 + 6, .none⟩) hbr).trans (unhide HF).2.2.2.2.2.2.1; have e7 := (hB1.cell (p := ⟨b, off + t * 9 + 7, .none⟩) hbr).trans (unhide HF).2.2.2.2.2.2.2.1; have e8 := (hB1.cell (p := ⟨b, off + t * 9 + 8, .none⟩) hbr).trans (unhide HF).2.2.2.2.2.2.2.2)
                              | (go_at_call 17; refine ((unhide HC).2 _ hB1).mono ?_; rintro e w2 ⟨b1, rfl, hb1, hB2⟩; obtain rfl : b1 = false := (Bool.eq_false_iff.2 (fun h9 => unhide HR (hb1.1 h9))); clear hb1))
                            go_ret
                            exact Says.no (unhide HV) (bthen (unhide HT).2.2.2 (bthen hB1 hB2))
                        · have HV : Hid (¬ Valid N E) := hide (fun h9 => hp (h9.2.2.2 nd (List.mem_of_getElem? (unhide HT).1)).1)
                          have HPo := hide hp
                          clear hp
                          go_wp2_with (go_at_call 16; refine (unhide HC).1.mono ?_; rintro e w1 ⟨b1, rfl, hb1, hB1⟩; obtain rfl : b1 = false := (Bool.eq_false_iff.2 (fun h9 => unhide HPo (hb1.1 h9))); clear hb1)
                          go_ret
                          exact Says.no (unhide HV) (bthen (unhide HT).2.2.2 hB1)
                      · obtain rfl : t = h := by omega
                        have htn : N.take t = N := List.take_of_length_le (by rw [HN.out]; exact Nat.le_refl _)
                        rw [htn] at hV
                        have HT := hide (And.intro hV hB6)
                        clear hV hB6 htn
                        go_wp2_with fail
                        go_ret
                        exact ⟨true, rfl, ⟨fun _ => ⟨(unhide HX).1, (unhide HZ).1, (unhide HZ).2.1, (unhide HT).1⟩, fun _ => rfl⟩, bthen (unhide HZ).2.2.2 (unhide HT).2⟩
                  · have hAc : ¬ Acyc E := acyc_short (unhide HX).1.2 hKi hdone (by omega)
                    subst hv
                    have hne : ((q.length : Int) == (i : Int)) = false := by rw [beq_eq_false_iff_ne]; omega
                    have hne2 : ¬ ((q.length : Int) = (i : Int)) := by omega
                    have HZ := hide (And.intro hAc hBc)
                    clear hKa hKi hdone hrest hKm hVv hAc hSr hBc hids htk
                    go_wp2_with fail
                    go_ret
                    exact Says.no (fun h9 => (unhide HZ).1 h9.2.2.1) (unhide HZ).2

end Go.Proofs.Qxb6614206aFmt
