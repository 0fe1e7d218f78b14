import Derived.Test.Qxb6614081aWait
import Derived.Deep.RegionHeld3
set_option linter.unusedVariables false
set_option linter.unusedSimpArgs false
namespace Go.Proofs.Qxb6614081a
open Go.RowKit
open Go.ChangeMaps (setBlock)

theorem OwnerAt.cells {w : World} {b : Nat} {x : ByteArray} {a : Int} (h : OwnerAt w b x a) :
    w.cell? ⟨b, 0, .none⟩ = some (.string x) ∧ w.cell? ⟨b, 1, .none⟩ = some (.int .i64 a) ∧ w.cell? ⟨b, 2, .none⟩ = some (.string ByteArray.empty) ∧ b < w.heap.size := by
  obtain ⟨cs, hb, h0, h1, h2, _⟩ := h
  obtain ⟨hlt, _⟩ := Array.getElem?_eq_some_iff.1 hb
  exact ⟨by simp [World.cell?, hb, h0], by simp [World.cell?, hb, h1], by simp [World.cell?, hb, h2], hlt⟩

theorem OwnerAt.of_block {w w' : World} {b : Nat} {x : ByteArray} {a : Int} (h : OwnerAt w b x a) (e : w'.heap[b]? = w.heap[b]?) : OwnerAt w' b x a := by
  obtain ⟨cs, hb, hr⟩ := h
  exact ⟨cs, e.trans hb, hr⟩

/-- The entries of the map of waiters: A's, stamped na, and B's, stamped nb. -/
structure Ents (es : Array MapEntry) (A B : Nat) (va vb : Value) (na nb : Nat) : Prop where
  mem : ∀ e ∈ es.toList, e = ⟨P1 A, va, na⟩ ∨ e = ⟨P1 B, vb, nb⟩
  hasB : (⟨P1 B, vb, nb⟩ : MapEntry) ∈ es.toList
  la : na < 2
  lb : nb < 2
  ne : na ≠ nb
  nodup : (es.toList.map (·.born)).Nodup

theorem ents_ab (A B : Nat) (va vb : Value) : Ents #[⟨P1 A, va, 0⟩, ⟨P1 B, vb, 1⟩] A B va vb 0 1 :=
  ⟨by simp, by simp, by omega, by omega, by omega, by simp⟩

theorem ents_ba (A B : Nat) (va vb : Value) : Ents #[⟨P1 B, vb, 0⟩, ⟨P1 A, va, 1⟩] A B va vb 1 0 :=
  ⟨by simp [or_comm], by simp, by omega, by omega, by omega, by simp⟩

theorem sb_same {w : World} {b : Nat} {o : Obj} (h : w.heap[b]? = some o) (o' : Obj) : (setBlock w b o').heap[b]? = some o' := by
  have hlt : b < w.heap.size := (Array.getElem?_eq_some_iff.1 h).1
  simp [setBlock, Array.getElem?_setIfInBounds, hlt]

theorem sb_other {w : World} {b j : Nat} (o' : Obj) (h : j ≠ b) : (setBlock w b o').heap[j]? = w.heap[j]? := by
  simp [setBlock, Array.getElem?_setIfInBounds]
  intro e
  exact absurd e.symm h

theorem ha_some {w : World} {b : Nat} {o : Obj} (h : w.heap[b]? = some o) (x : Obj) : (w.alloc x).heap[b]? = some o :=
  (heap_alloc_old _ _ (Array.getElem?_eq_some_iff.1 h).1).trans h

/-- Nothing to hand out. -/
theorem next_empty (w : World) (r bm : Nat) (hr : w.heap[r]? = some (.mapIter (some bm) 0 #[] 0)) (hb : w.heap[bm]? = some (.map #[] 0)) (ty : TypeId) :
    (Instr.next (P1 r) false ty).run Try.prog w = .ok (.tuple #[.bool false]) w := by
  rcases run_next_at (P := Try.prog) w ty r bm 0 0 #[] #[] 0 hr hb (by simp) (Nat.le_refl _) with ⟨_, h⟩ | ⟨e, he, _⟩
  · exact h
  · simp [leftOf] at he

/-- The loop over the waiters. -/
structure Lp (w wr : World) (it M nb : Nat) (es : Array MapEntry) (r : Bool) (seen : Array Nat) : Prop where
  iter : ∃ c, 2 ≤ c ∧ wr.heap[it]? = some (.mapIter (some M) 2 seen c)
  bel : Below w.heap.size w wr
  met : seen.contains nb = true → r = false

set_option maxHeartbeats 1000000 in
theorem blocks_any (K H M A B na nb : Nat) (es : Array MapEntry) (xa xb : ByteArray) (aa ab : Int) (ea eb : Bool) (w : World) (hE : Ents es A B (.string (modeS ea)) (.string (modeS eb)) na nb)
    (hK0 : w.cell? ⟨K, 0, .none⟩ = some (.map (some H))) (hK1 : w.cell? ⟨K, 1, .none⟩ = some (.map (some M))) (hH : w.heap[H]? = some (.map #[] 0)) (hM : w.heap[M]? = some (.map es 2))
    (hA : OwnerAt w A xa aa) (hB : OwnerAt w B xb ab) (hne : A ≠ B) :
    Calls Try.prog 11 #[P1 K, P1 A, .string (modeS ea)] w fun e w' => e = .returned (.bool ((eb || ea) && older ab xb aa xa)) ∧ Below w.heap.size w w' := by
  have hltH : H < w.heap.size := (Array.getElem?_eq_some_iff.1 hH).1
  have hltM : M < w.heap.size := (Array.getElem?_eq_some_iff.1 hM).1
  have hltK : K < w.heap.size := World.block_lt_of_cell? _ _ hK0
  have hr1 := run_range_map (P := Try.prog) w 30 9 47 H #[] 0 Try.underlying30 hH
  have hn1 := next_empty (w.alloc (.mapIter (some H) 0 #[] 0)) w.heap.size H (heap_alloc_new _ _) ((heap_alloc_old _ _ hltH).trans hH)
  have hM1 : (w.alloc (.mapIter (some H) 0 #[] 0)).heap[M]? = some (.map es 2) := (heap_alloc_old _ _ hltM).trans hM
  have hr2 := run_range_map (P := Try.prog) (w.alloc (.mapIter (some H) 0 #[] 0)) 31 25 47 M es 2 Try.underlying31 hM1
  have hst : Lp w ((w.alloc (.mapIter (some H) 0 #[] 0)).alloc (.mapIter (some M) 2 #[] 2)) (w.heap.size + 1) M nb es ((eb || ea) && older ab xb aa xa) #[] :=
    ⟨⟨2, Nat.le_refl _, by have := heap_alloc_new (w.alloc (.mapIter (some H) 0 #[] 0)) (.mapIter (some M) 2 #[] 2); simpa using this⟩, ((Below.refl _ w).alloc (Nat.le_refl _) _).alloc (by simp) _, by simp⟩
  generalize hrr : ((eb || ea) && older ab xb aa xa) = r at hst ⊢
  have HRR := hide hrr
  have HE := hide hE
  have HO := hide (And.intro hA hB)
  have HM := hide hM
  clear hrr hE hA hB hM hM1 hH
  go_enter Try.func11, Try.ntmps11
  go_wp2_with fail
  go_loopg [7] 1 (fun g v7 wr => w.alloc (.mapIter (some H) 0 #[] 0) = wr)
  case atStart => rfl
  case round =>
    subst hrel
    go_wp2_with fail
    clear hr1 hr2 hn1
    go_loopg [9] es.size (fun g v9 wr => ∃ seen, Lp w wr (w.heap.size + 1) M nb es r seen ∧ (leftOf es seen).size ≤ g)
    case atStart => exact ⟨#[], hst, Array.size_filter_le⟩
    case round =>
      obtain ⟨seen, hL, hg⟩ := hrel
      clear hst
      have hMr : wr.heap[M]? = some (.map es 2) := (hL.bel.block M hltM).trans HM.out
      have hold : ∀ x ∈ es.toList, x.born < 2 := fun x hx => by
        rcases HE.out.mem x hx with rfl | rfl
        · exact HE.out.la
        · exact HE.out.lb
      obtain ⟨c, hc2, hit⟩ := hL.iter
      rcases run_next_at (P := Try.prog) wr 0 (w.heap.size + 1) M 2 c seen es 2 hit hMr hold hc2 with ⟨h0, hrun⟩ | ⟨e, he, w1, hw1, hrun⟩
      · have hrun' : ∀ ty, (Instr.next (P1 (w.heap.size + 1)) false ty).run Try.prog wr = .ok (.tuple #[.bool false]) wr := fun ty => hrun
        have hr0 : r = false := hL.met (all_seen es seen h0 _ HE.out.hasB)
        have hbel := hL.bel
        subst hr0
        clear hrun hit hold hMr hg h0 hc2 hL
        go_wp2_with fail
        go_ret
        exact ⟨rfl, hbel⟩
      · obtain ⟨hmem, hnot⟩ := mem_left he
        have hshr := left_shrinks es seen e he
        have hrun' : ∀ ty, (Instr.next (P1 (w.heap.size + 1)) false ty).run Try.prog wr = .ok (.tuple #[.bool true, e.key, e.val]) (setBlock w1 (w.heap.size + 1) (.mapIter (some M) 2 (seen.push e.born) 2)) := fun ty => hrun
        have hw1h : w1.heap = wr.heap := by rcases hw1 with rfl | rfl <;> rfl
        have hit2 : (setBlock w1 (w.heap.size + 1) (.mapIter (some M) 2 (seen.push e.born) 2)).heap[w.heap.size + 1]? = some (.mapIter (some M) 2 (seen.push e.born) 2) := by
          exact sb_same (by rw [hw1h]; exact hit) _
        have hoth : ∀ j, j ≠ w.heap.size + 1 → (setBlock w1 (w.heap.size + 1) (.mapIter (some M) 2 (seen.push e.born) 2)).heap[j]? = wr.heap[j]? := fun j hj => by
          rw [sb_other _ hj, hw1h]
        have hent := run_entry_at (P := Try.prog) (setBlock w1 (w.heap.size + 1) (.mapIter (some M) 2 (seen.push e.born) 2)) (w.heap.size + 1) M 2 seen es 2 e hit2 ((hoth M (by omega)).trans hMr) hmem HE.out.nodup
        have hb2 : Below w.heap.size w (setBlock w1 (w.heap.size + 1) (.mapIter (some M) 2 (seen.push e.born) 2)) := by
          refine hL.bel.trans ⟨?_, ?_, ?_, ?_, fun j hj => hoth j (by omega)⟩
          · rcases hw1 with rfl | rfl <;> rfl
          · rcases hw1 with rfl | rfl <;> rfl
          · rcases hw1 with rfl | rfl <;> rfl
          · rcases hw1 with rfl | rfl <;> simp [setBlock]
        generalize hW2 : setBlock w1 (w.heap.size + 1) (.mapIter (some M) 2 (seen.push e.born) 2) = W2 at hrun' hit2 hent hb2
        have hA2 := (HO.out.1.of_block (hb2.block A HO.out.1.cells.2.2.2))
        have hB2 := (HO.out.2.of_block (hb2.block B HO.out.2.cells.2.2.2))
        obtain ⟨a0, a1, a2, a3⟩ := hA2.cells
        obtain ⟨b0, b1, b2, b3⟩ := hB2.cells
        clear hW2 hoth hrun hit hMr hw1 hw1h hold he
        rcases HE.out.mem e hmem with rfl | rfl
        · have hq := neq_same
          have hnext := hide (And.intro hit2 (And.intro hb2 (And.intro hL.met hshr)))
          clear hit2 hb2 hL hshr hA2 hB2
          go_wp2_with fail
          go_quiet (fail)
          go_wp2_with fail
          obtain ⟨n1, n2, n3, n4⟩ := unhide hnext
          go_roundg ((leftOf es (seen.push na)).size)
          case measure => omega
          case rel =>
            refine ⟨seen.push na, ⟨⟨2, Nat.le_refl _, n1⟩, n2.trans ⟨rfl, rfl, rfl, Nat.le_refl _, fun _ _ => rfl⟩, fun h => n3 ?_⟩, Nat.le_refl _⟩
            have := HE.out.ne
            simp at h
            simp
            rcases h with h | h
            · exact h
            · omega
        · obtain ⟨ca, hca, _⟩ := hA2
          obtain ⟨cb, hcb, _⟩ := hB2
          cases hcf : (eb || ea) with
          | false =>
            have hq := fun nq => neq_other (W2.drewN nq) B A cb ca 46 46 (fun h => hne h.symm) hcb hca
            have hr0 : r = false := by rw [← HRR.out, hcf]; rfl
            have hcall := conflict_any eb ea
            rw [hcf] at hcall
            have HC := hide hcall
            have hnext := hide (And.intro hit2 (And.intro hb2 (And.intro hr0 hshr)))
            clear hit2 hb2 hL hshr hca hcb hcall hcf hr0
            go_wp2_with fail
            go_quiet ((go_at_call 12; exact Calls.quiet_of_same (unhide HC _)))
            go_wp2_with fail
            obtain ⟨n1, n2, n3, n4⟩ := unhide hnext
            go_roundg ((leftOf es (seen.push nb)).size)
            case measure => omega
            case rel => exact ⟨seen.push nb, ⟨⟨2, Nat.le_refl _, n1⟩, n2.trans ⟨rfl, rfl, rfl, Nat.le_refl _, fun _ _ => rfl⟩, fun h => n3⟩, Nat.le_refl _⟩
          | true =>
            have hq := fun wx h1 h2 => neq_other wx B A cb ca 46 46 (fun h => hne h.symm) h1 h2
            have hr0 : older ab xb aa xa = r := by rw [← HRR.out, hcf]; rfl
            have hcall := conflict_any eb ea
            rw [hcf] at hcall
            have HC := hide hcall
            have hcall2 := olderThan_any xb xa ab aa
            rw [hr0] at hcall2
            have HC2 := hide hcall2
            have hnext := hide (And.intro hit2 (And.intro hb2 hshr))
            clear hit2 hb2 hL hshr hcall hcall2 hcf hr0
            go_wp2_with fail
            go_region_held3 (fun w' => w'.cell? ⟨B, 0, .none⟩ = some (.string xb) ∧ w'.cell? ⟨B, 1, .none⟩ = some (.int .i64 ab) ∧ w'.cell? ⟨B, 2, .none⟩ = some (.string ByteArray.empty) ∧ w'.cell? ⟨A, 0, .none⟩ = some (.string xa) ∧ w'.cell? ⟨A, 1, .none⟩ = some (.int .i64 aa) ∧ w'.cell? ⟨A, 2, .none⟩ = some (.string ByteArray.empty) ∧ w'.heap[B]? = some (.cells cb 46 (0, 0)) ∧ w'.heap[A]? = some (.cells ca 46 (0, 0))) (refine ⟨?_, ?_, ?_, ?_, ?_, ?_, ?_, ?_⟩ <;> first | assumption | (go_keep; done) | exact ha_some (ha_some (by assumption) _) _ | exact hcb | exact hca) (first | (go_at_call 12; refine (unhide HC _).mono ?_; rintro e w' ⟨rfl, rfl⟩) | (go_at_call 13; refine (unhide HC2 _).mono ?_; rintro e w' ⟨rfl, rfl⟩))
            clear hq
            obtain ⟨n1, n2, n4⟩ := unhide hnext
            have hB3 : ∀ o1 o2, Below w.heap.size w ((W2.drew.alloc o1).alloc o2) := fun o1 o2 => ((n2.drew).alloc (by have := n2.size; simpa using this) _).alloc (by have := n2.size; simp; omega) _
            have hI3 : ∀ o1 o2, ((W2.drew.alloc o1).alloc o2).heap[w.heap.size + 1]? = some (.mapIter (some M) 2 (seen.push nb) 2) := fun o1 o2 => ha_some (ha_some n1 _) _
            have HB3 := hide hB3
            have HI3 := hide hI3
            clear n1 n2 hnext hB3 hI3
            cases r with
            | true =>
              go_wp2_with fail
              go_ret
              exact ⟨rfl, unhide HB3 _ _⟩
            | false =>
              go_wp2_with fail
              go_roundg ((leftOf es (seen.push nb)).size)
              case measure => omega
              case rel => exact ⟨seen.push nb, ⟨⟨2, Nat.le_refl _, unhide HI3 _ _⟩, unhide HB3 _ _, fun h => rfl⟩, Nat.le_refl _⟩

end Go.Proofs.Qxb6614081a
