import Derived.Test.Qxb6614081aBlocks
set_option linter.unusedVariables false
set_option linter.unusedSimpArgs false
namespace Go.Proofs.Qxb6614081a
open Go.RowKit
open Go.ChangeMaps (setBlock)

/-- All that 'blocks' asks, told of two waiters. -/
structure Ready (w0 w : World) (K H M A B : Nat) (es : Array MapEntry) (xa xb : ByteArray) (aa ab : Int) : Prop where
  k0 : w.cell? ⟨K, 0, .none⟩ = some (.map (some H))
  k1 : w.cell? ⟨K, 1, .none⟩ = some (.map (some M))
  h : w.heap[H]? = some (.map #[] 0)
  m : w.heap[M]? = some (.map es 2)
  a : OwnerAt w A xa aa
  b : OwnerAt w B xb ab
  ne : A ≠ B
  bel : Below w0.heap.size w0 w

theorem Ready.next {w0 w w' : World} {K H M A B : Nat} {es : Array MapEntry} {xa xb : ByteArray} {aa ab : Int} (h : Ready w0 w K H M A B es xa xb aa ab) (hB : Below w.heap.size w w') : Ready w0 w' K H M A B es xa xb aa ab :=
  ⟨(hB.cell (World.block_lt_of_cell? _ _ h.k0)).trans h.k0, (hB.cell (World.block_lt_of_cell? _ _ h.k1)).trans h.k1,
    (hB.block _ (Array.getElem?_eq_some_iff.1 h.h).1).trans h.h, (hB.block _ (Array.getElem?_eq_some_iff.1 h.m).1).trans h.m,
    h.a.of_block (hB.block _ h.a.cells.2.2.2), h.b.of_block (hB.block _ h.b.cells.2.2.2), h.ne, h.bel.trans (hB.mono h.bel.size)⟩

theorem zzBlocks (K H M A B na nb : Nat) (es : Array MapEntry) (xa xb : ByteArray) (aa ab : Int) (ea eb : Bool) (w : World) (hE : Ents es A B (.string (modeS ea)) (.string (modeS eb)) na nb)
    (hK0 : w.cell? ⟨K, 0, .none⟩ = some (.map (some H))) (hK1 : w.cell? ⟨K, 1, .none⟩ = some (.map (some M))) (hH : w.heap[H]? = some (.map #[] 0)) (hM : w.heap[M]? = some (.map es 2))
    (hA : OwnerAt w A xa aa) (hB : OwnerAt w B xb ab) (hne : A ≠ B) :
    Calls Try.prog 8 #[P1 K, P1 A, .bool ea] w fun e w' => e = .returned (.bool ((eb || ea) && older ab xb aa xa)) ∧ Below w.heap.size w w' := by
  have HC := hide (blocks_any K H M A B na nb es xa xb aa ab ea eb w hE hK0 hK1 hH hM hA hB hne)
  generalize ((eb || ea) && older ab xb aa xa) = r at HC ⊢
  clear hE hK0 hK1 hH hM hA hB hne
  go_enter Try.func8, Try.ntmps8
  go_wp2_with fail
  refine (mode_any ea _).mono ?_
  rintro e w' ⟨rfl, rfl⟩
  go_wp2_with fail
  refine (unhide HC).mono ?_
  rintro e w1 ⟨rfl, hb⟩
  go_wp2_with fail
  go_ret
  exact ⟨rfl, hb⟩

/-- The plain law. -/
theorem plain_law (ea eb p q : Bool) (h : p = true → q = false) :
    (!(((eb || ea) && p) && ((ea || eb) && q)) && (((eb || ea) && p) == ((ea || eb) && p)) && (((ea || eb) && q) == ((ea || eb) && q))) = true := by
  cases ea <;> cases eb <;> cases p <;> cases q <;> simp_all

/-- The world behind the three makings. -/
structure Laid (w w3 : World) (A B : Nat) (xa xb : ByteArray) (aa ab : Int) : Prop where
  k0 : w3.cell? ⟨w.heap.size + 2, 0, .none⟩ = some (.map (some w.heap.size))
  k1 : w3.cell? ⟨w.heap.size + 2, 1, .none⟩ = some (.map (some (w.heap.size + 1)))
  h : w3.heap[w.heap.size]? = some (.map #[] 0)
  m : w3.heap[w.heap.size + 1]? = some (.map #[] 0)
  a : OwnerAt w3 A xa aa
  b : OwnerAt w3 B xb ab
  ne : A ≠ B
  ma : A ≠ w.heap.size + 1
  mb : B ≠ w.heap.size + 1
  bel : Below w.heap.size w w3

theorem laid_mk {w w1 w2 w3 : World} {xa xb : ByteArray} {aa ab : Int} {ca cb : Array Value} (h1 : w1 = ((w.alloc (.map #[] 0)).alloc (.map #[] 0)).alloc (.cells #[.map (some w.heap.size), .map (some (w.heap.size + 1)), .chan .none] 34))
    (h2 : w2 = (w1.alloc (.map #[] 0)).alloc (.cells ca 46)) (a0 : ca[0]? = some (.string xa)) (a1 : ca[1]? = some (.int .i64 aa)) (a2 : ca[2]? = some (.string ByteArray.empty)) (a3 : ca.size = 13)
    (h3 : w3 = (w2.alloc (.map #[] 0)).alloc (.cells cb 46)) (b0 : cb[0]? = some (.string xb)) (b1 : cb[1]? = some (.int .i64 ab)) (b2 : cb[2]? = some (.string ByteArray.empty)) (b3 : cb.size = 13) :
    Laid w w3 (w1.heap.size + 1) (w2.heap.size + 1) xa xb aa ab := by
  have s1 : w1.heap.size = w.heap.size + 3 := by rw [h1]; simp
  have s2 : w2.heap.size = w.heap.size + 5 := by rw [h2]; simp; omega
  have g1 : w1.heap[w.heap.size]? = some (.map #[] 0) := by rw [h1]; exact ha_some (ha_some (heap_alloc_new _ _) _) _
  have g2 : w1.heap[w.heap.size + 1]? = some (.map #[] 0) := by rw [h1]; refine ha_some ?_ _; have := heap_alloc_new (w.alloc (.map #[] 0)) (.map #[] 0); simpa using this
  have g3 : w1.heap[w.heap.size + 2]? = some (.cells #[.map (some w.heap.size), .map (some (w.heap.size + 1)), .chan .none] 34) := by
    rw [h1]; have := heap_alloc_new ((w.alloc (.map #[] 0)).alloc (.map #[] 0)) (.cells #[.map (some w.heap.size), .map (some (w.heap.size + 1)), .chan .none] 34); simpa using this
  have gA : w2.heap[w1.heap.size + 1]? = some (.cells ca 46) := by rw [h2]; have := heap_alloc_new (w1.alloc (.map #[] 0)) (.cells ca 46); simpa using this
  have gB : w3.heap[w2.heap.size + 1]? = some (.cells cb 46) := by rw [h3]; have := heap_alloc_new (w2.alloc (.map #[] 0)) (.cells cb 46); simpa using this
  have up2 : ∀ {j o}, w1.heap[j]? = some o → w2.heap[j]? = some o := fun h => by rw [h2]; exact ha_some (ha_some h _) _
  have up3 : ∀ {j o}, w2.heap[j]? = some o → w3.heap[j]? = some o := fun h => by rw [h3]; exact ha_some (ha_some h _) _
  have k3 := up3 (up2 g3)
  refine ⟨by simp [World.cell?, k3], by simp [World.cell?, k3], up3 (up2 g1), up3 (up2 g2), ⟨ca, up3 gA, a0, a1, a2, a3⟩, ⟨cb, gB, b0, b1, b2, b3⟩, by omega, by omega, by omega, ?_⟩
  rw [h3, h2, h1]
  exact ((((((((Below.refl _ w).alloc (Nat.le_refl _) _).alloc (by simp) _).alloc (by simp; omega) _).alloc (by simp; omega) _).alloc (by simp; omega) _).alloc (by simp; omega) _).alloc (by simp; omega) _)

theorem below_setBlock {B m : Nat} {w a : World} (h : Below B w a) (hm : B ≤ m) (o : Obj) : Below B w (setBlock a m o) :=
  h.trans ⟨rfl, rfl, rfl, by simp [setBlock], fun j hj => sb_other o (by omega)⟩

/-- Behind both waits. -/
theorem ready_mk {w w3 w4 w5 : World} {A B : Nat} {xa xb : ByteArray} {aa ab : Int} {va vb : Value} (h : Laid w w3 A B xa xb aa ab)
    (h4 : w4 = setBlock w3.drew (w.heap.size + 1) (.map #[⟨P1 A, va, 0⟩] 1)) (h5 : w5 = setBlock w4.drew (w.heap.size + 1) (.map #[⟨P1 A, va, 0⟩, ⟨P1 B, vb, 1⟩] 2)) :
    Ready w w5 (w.heap.size + 2) w.heap.size (w.heap.size + 1) A B #[⟨P1 A, va, 0⟩, ⟨P1 B, vb, 1⟩] xa xb aa ab := by
  have hb : ∀ j, j ≠ w.heap.size + 1 → w5.heap[j]? = w3.heap[j]? := fun j hj => by
    rw [h5, sb_other _ hj, h4]; exact sb_other _ hj
  have hm4 : w4.heap[w.heap.size + 1]? = some (.map #[⟨P1 A, va, 0⟩] 1) := by rw [h4]; exact sb_same (show w3.drew.heap[w.heap.size + 1]? = _ from h.m) _
  refine ⟨(World.cell?_of_block (w := w3) (hb _ (by simp))).trans h.k0, (World.cell?_of_block (w := w3) (hb _ (by simp))).trans h.k1, (hb _ (by omega)).trans h.h, ?_, h.a.of_block (hb _ h.ma), h.b.of_block (hb _ h.mb), h.ne, ?_⟩
  · rw [h5]; exact sb_same (show w4.drew.heap[w.heap.size + 1]? = _ from hm4) _
  · rw [h5, h4]
    exact below_setBlock (below_setBlock h.bel.drew (by omega) _).drew (by omega) _

set_option maxHeartbeats 2000000 in
theorem main_walk (xa xb : ByteArray) (aa ab : Int) (ea eb : Bool) (w : World) (h0 : xa.size ≤ maxLen) (h1 : xb.size ≤ maxLen) (h2 : xa.size ≤ 65536) (h3 : xb.size ≤ 65536) :
    Calls Try.prog 3 #[.string xa, .int .i64 aa, .bool ea, .string xb, .int .i64 ab, .bool eb] w fun e w' => e = .returned (.bool true) ∧ Below w.heap.size w w' := by
  go_enter Try.func3, Try.ntmps3
  go_wp2_with fail
  refine (bytes_any xa xb aa ab ea eb _ h0 h1).mono ?_
  rintro e w' ⟨⟨r, rfl⟩, rfl⟩
  clear h0 h1
  cases r with
  | false =>
    go_wp2_with fail
    go_ret
    exact ⟨rfl, Below.refl _ _⟩
  | true =>
    go_wp2_with fail
    refine (newKey _).mono ?_
    rintro e w1 ⟨rfl, hw1⟩
    have H1 := hide hw1
    clear hw1
    go_wp2_with fail
    refine (newOwner xa aa _).mono ?_
    rintro e w2 ⟨rfl, ca, hw2, a0, a1, a2, a3⟩
    have H2 := hide (And.intro hw2 (And.intro a0 (And.intro a1 (And.intro a2 a3))))
    clear hw2 a0 a1 a2 a3
    go_wp2_with fail
    refine (newOwner xb ab _).mono ?_
    rintro e w3 ⟨rfl, cb, hw3, a0, a1, a2, a3⟩
    have H3 := hide (And.intro hw3 (And.intro a0 (And.intro a1 (And.intro a2 a3))))
    clear hw3 a0 a1 a2 a3
    go_wp2_with fail
    have hL := laid_mk (unhide H1) (unhide H2).1 (unhide H2).2.1 (unhide H2).2.2.1 (unhide H2).2.2.2.1 (unhide H2).2.2.2.2 (unhide H3).1 (unhide H3).2.1 (unhide H3).2.2.1 (unhide H3).2.2.2.1 (unhide H3).2.2.2.2
    generalize w1.heap.size + 1 = A at hL ⊢
    generalize w2.heap.size + 1 = B at hL ⊢
    clear H1 H2 H3
    have hu1 := update1 w3.drew (w'.heap.size + 1) (some ⟨A, 0, .none⟩) (.string (modeS ea)) hL.m
    refine (wait_any (w'.heap.size + 2) (w'.heap.size + 1) A ea w3 _ hL.k1 hu1).mono ?_
    rintro e w4 ⟨rfl, hw4⟩
    have H4 := hide hw4
    have HL := hide hL
    clear hw4 hu1 hL
    go_wp2_with fail
    have hL := unhide HL
    have hw4 := unhide H4
    have hm4 : w4.drew.heap[w'.heap.size + 1]? = some (.map #[⟨P1 A, .string (modeS ea), 0⟩] 1) := by rw [hw4]; exact sb_same (show w3.drew.heap[w'.heap.size + 1]? = _ from hL.m) _
    have ho4 : ∀ j, j ≠ w'.heap.size + 1 → w4.drew.heap[j]? = w3.heap[j]? := fun j hj => by rw [hw4]; exact sb_other _ hj
    obtain ⟨ca2, hca2, _⟩ := hL.a
    obtain ⟨cb2, hcb2, _⟩ := hL.b
    have hu2 := update2 w4.drew (w'.heap.size + 1) A B (.string (modeS ea)) (.string (modeS eb)) ca2 cb2 46 46 hm4 (fun h => hL.ne h.symm) ((ho4 _ hL.ma).trans hca2) ((ho4 _ hL.mb).trans hcb2)
    have hk4 : w4.cell? ⟨w'.heap.size + 2, 1, .none⟩ = some (.map (some (w'.heap.size + 1))) := (World.cell?_of_block (w := w3) (ho4 _ (by simp))).trans hL.k1
    refine (wait_any (w'.heap.size + 2) (w'.heap.size + 1) B eb w4 _ hk4 hu2).mono ?_
    rintro e w5 ⟨rfl, hw5⟩
    have hR := ready_mk hL hw4 hw5
    have HR := hide hR
    clear hR hw5 hu2 hk4 hm4 ho4 hca2 hcb2 hw4 hL HL H4
    go_wp2_with fail
    have hR := unhide HR
    refine (zzBlocks _ _ _ A B 0 1 _ xa xb aa ab ea eb _ (ents_ab A B _ _) hR.k0 hR.k1 hR.h hR.m hR.a hR.b hR.ne).mono ?_
    rintro e w6 ⟨rfl, hB6⟩
    have HR6 := hide (hR.next hB6)
    clear hR HR hB6
    go_wp2_with fail
    have hR := unhide HR6
    refine (zzBlocks _ _ _ B A 1 0 _ xb xa ab aa eb ea _ (ents_ba B A _ _) hR.k0 hR.k1 hR.h hR.m hR.b hR.a (fun h => hR.ne h.symm)).mono ?_
    rintro e w7 ⟨rfl, hB7⟩
    have HB := hide (hR.bel.trans (hB7.mono hR.bel.size))
    clear hR HR6 hB7
    have hasy := older_asymm ab xb aa xa
    have ho1 := older_any xa xb aa ab
    have ho2 := older_any xb xa ab aa
    generalize older ab xb aa xa = p at hasy ho2 ⊢
    generalize older aa xa ab xb = q at hasy ho1 ⊢
    have HO := hide (And.intro ho1 ho2)
    clear ho1 ho2
    cases ea <;> cases eb <;> cases p <;> cases q
    all_goals first
      | (exfalso; simp at hasy; done)
      | (clear hasy
         go_wp2_with fail
         refine ((unhide HO).1 _).mono ?_
         rintro e w8 ⟨rfl, rfl⟩
         go_wp2_with fail
         refine ((unhide HO).2 _).mono ?_
         rintro e w9 ⟨rfl, rfl⟩
         go_wp2_with fail
         go_ret
         exact ⟨rfl, unhide HB⟩)

end Go.Proofs.Qxb6614081a
