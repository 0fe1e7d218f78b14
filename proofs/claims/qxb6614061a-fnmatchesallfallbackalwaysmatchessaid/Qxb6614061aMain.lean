import Derived.Test.Qxb6614061aZz
set_option linter.unusedVariables false
set_option linter.unusedSimpArgs false
namespace Go.Proofs.Qxb6614061a
open Go.RowKit

theorem StrAt.mono {w w' : World} {a : Option Addr} {n : Nat} {S : Nat → ByteArray} (h : StrAt w a n S) (hB : Below w.heap.size w w') : StrAt w' a n S := by
  intro j hj
  obtain ⟨b, off, h1, h2, h3, h4⟩ := h j hj
  exact ⟨b, off, h1, Nat.lt_of_lt_of_le h2 hB.size, (hB.cell h2).trans h3, h4⟩

theorem Sets.mono {w w' : World} {a : Option Addr} {n : Nat} {A : Nat → Option Addr} {L C : Nat → Nat} {S : Nat → Nat → ByteArray} (h : Sets w a n A L C S) (hB : Below w.heap.size w w') : Sets w' a n A L C S := by
  refine ⟨fun i hi => ?_, fun i hi => (h.str i hi).mono hB, h.le⟩
  obtain ⟨b, off, h1, h2, h3⟩ := h.row i hi
  exact ⟨b, off, h1, Nat.lt_of_lt_of_le h2 hB.size, (hB.cell h2).trans h3⟩

theorem Keys.mono {w w' : World} {a : Option Addr} {n : Nat} {c : Nat → Bool} {v : Nat → ByteArray} (h : Keys w a n c v) (hB : Below w.heap.size w w') : Keys w' a n c v := by
  intro i hi
  obtain ⟨b, off, h1, h2, h3, h4, h5⟩ := h i hi
  exact ⟨b, off, h1, Nat.lt_of_lt_of_le h2 hB.size, (hB.cell h2).trans h3, (hB.cell h2).trans h4, h5⟩

/-- Place j turned to '*'. -/
def star {α : Type} (x : α) (f : Nat → α) (j : Nat) : Nat → α := fun i => if i = j then x else f i

theorem Two.star {w : World} {b n j : Nat} {v : Nat → ByteArray} {c : Nat → Bool} (h : Two w b n v c) :
    Two ((w.setCell ⟨b, j, .none⟩ (.string ByteArray.empty)).setCell ⟨b + 1, j, .none⟩ (.bool true)) b n (star ByteArray.empty v j) (star true c j) := by
  refine ⟨((h.vals.set j _).setOther (by simp) _).congr (fun i hi => ?_), ((h.caught.setOther (by simp) _).set j _).congr (fun i hi => ?_)⟩
  · show (if i = j then _ else _) = Value.string (if i = j then _ else _)
    split <;> rfl
  · show (if i = j then _ else _) = Value.bool (if i = j then _ else _)
    split <;> rfl

theorem okAt_star {c : Nat → Bool} {v : Nat → ByteArray} {L : Nat → Nat} {S : Nat → Nat → ByteArray} {j i : Nat} (h : okAt c v L S i = true) : okAt (star true c j) (star ByteArray.empty v j) L S i = true := by
  unfold okAt star at *
  by_cases e : i = j
  · simp [e]
  · simp only [e, if_false]; exact h

theorem match_star {n kn j : Nat} {c : Nat → Bool} {v : Nat → ByteArray} {L : Nat → Nat} {S : Nat → Nat → ByteArray} (h : matchB n kn c v L S = true) : matchB n kn (star true c j) (star ByteArray.empty v j) L S = true := by
  unfold matchB at *
  simp only [Bool.and_eq_true, decide_eq_true_eq, List.all_eq_true, List.mem_range] at *
  exact ⟨h.1, fun i hi => okAt_star (h.2 i hi)⟩

theorem match_len {n kn : Nat} {c : Nat → Bool} {v : Nat → ByteArray} {L : Nat → Nat} {S : Nat → Nat → ByteArray} (h : matchB n kn c v L S = true) : kn = n := by
  unfold matchB at h
  simp only [Bool.and_eq_true, decide_eq_true_eq] at h
  exact h.1

theorem match_all (n : Nat) (L : Nat → Nat) (S : Nat → Nat → ByteArray) : matchB n n (fun _ => true) (fun _ => ByteArray.empty) L S = true :=
  matchB_yes (fun i _ => rfl)

theorem star_size {v : Nat → ByteArray} {n j : Nat} (h : ∀ i, i < n → (v i).size ≤ maxLen) : ∀ i, i < n → (star ByteArray.empty v j i).size ≤ maxLen := by
  intro i hi
  unfold star
  split
  · simp
  · exact h i hi

/-- The law, in plain words. -/
theorem plain_law (n kn : Nat) (m m2 : Bool) (h1 : m = true → m2 = true) (h2 : m2 = true → kn = n) :
    (m = false ∧ m2 = false) ∨ (m2 = true ∧ kn = n) := by
  cases m <;> cases m2 <;> simp_all

set_option maxHeartbeats 2000000 in
theorem main_walk (a ka : Option Addr) (n cap kn kcap : Nat) (j : Nat) (A : Nat → Option Addr) (L C : Nat → Nat) (S : Nat → Nat → ByteArray) (c : Nat → Bool) (v : Nat → ByteArray) (w : World)
    (hkn0 : kn ≤ maxLen) (hS : Sets w a n A L C S) (hK : Keys w ka kn c v) (hj1 : j ≤ kn) (hn : n ≤ 1048576) (hkn : kn ≤ 1048576) :
    Calls Try.prog 3 #[.slice a n cap, .slice ka kn kcap, .int .i64 j] w fun e w' => e = .returned (.bool true) ∧ Below w.heap.size w w' := by
  have HS := hide hS
  have HK := hide hK
  have hv : Hid (∀ i, i < kn → (v i).size ≤ maxLen) := hide (fun i hi => by obtain ⟨_, _, _, _, _, _, h⟩ := hK i hi; exact h)
  clear hS hK
  go_enter Try.func3, Try.ntmps3
  go_wp2_with fail
  refine (bytes_any a ka n cap kn kcap j A L C S c v _ hn hkn0 HS.out HK.out).mono ?_
  rintro e w' ⟨he, rfl⟩
  rcases he with rfl | ⟨rfl, _, _⟩
  · go_wp2_with fail
    go_ret
    exact ⟨rfl, Below.refl _ _⟩
  · go_wp2_with fail
    refine (size_any a ka n cap kn kcap A L C S c v _ hn hkn HS.out HK.out).mono ?_
    rintro e w1 ⟨⟨z, rfl⟩, rfl⟩
    clear hkn0
    by_cases hz : 1048576 < z
    · go_wp2_with fail
      go_ret
      exact ⟨rfl, Below.refl _ _⟩
    · go_wp2_with fail
      refine (keyParts ka kn kcap c v _ hkn HK.out).mono ?_
      rintro e w2 ⟨rfl, hT, hB, hs⟩
      have H2 := hide (And.intro hT (And.intro hB hs))
      clear hT hB hs
      go_wp2_with fail
      refine (zz_any a n cap kn w1.heap.size A L C S c v _ hn hkn (HS.out.mono (unhide H2).2.1) (unhide H2).1 hv.out).mono ?_
      rintro e w3 ⟨rfl, hB3⟩
      generalize hm : matchB n kn c v L S = m
      have HM := hide hm
      have hB3' := (unhide H2).2.1.trans (hB3.mono (unhide H2).2.1.size)
      have H3 := hide hB3'
      clear hm hB3 hB3' H2
      go_wp2_with fail
      refine (keyParts ka kn kcap c v _ hkn (HK.out.mono (unhide H3))).mono ?_
      rintro e w4 ⟨rfl, hT4, hB4, hs4⟩
      have H4 := hide (And.intro hT4 (And.intro ((unhide H3).trans (hB4.mono (unhide H3).size)) hs4))
      have hsz : w1.heap.size ≤ w3.heap.size := (unhide H3).size
      by_cases hj : j < kn
      · have r1 := hT4.vals.cell hj
        have r2 := hT4.vals.frozen j
        have r3 := hT4.caught.cell hj
        have r4 := hT4.caught.frozen j
        have HX := hide (And.intro (hT4.star (j := j)) (And.intro (((unhide H4).2.1.setCell (p := ⟨w3.heap.size, j, .none⟩) hsz (.string ByteArray.empty)).setCell (p := ⟨w3.heap.size + 1, j, .none⟩) (Nat.le_succ_of_le hsz) (.bool true))
          (And.intro (star_size (j := j) hv.out) (fun h : matchB n kn c v L S = true => match_star (j := j) h))))
        clear hT4 hB4 hs4
        go_wp2_with fail
        refine (zz_any a n cap kn w3.heap.size A L C S (star true c j) (star ByteArray.empty v j) _ hn hkn (HS.out.mono (unhide HX).2.1) (unhide HX).1 (unhide HX).2.2.1).mono ?_
        rintro e w5 ⟨rfl, hB5⟩
        generalize hm2 : matchB n kn (star true c j) (star ByteArray.empty v j) L S = m2
        have HP := hide (plain_law n kn m m2 (fun h => by rw [← hm2]; exact (unhide HX).2.2.2 ((unhide HM).trans h)) (fun h => match_len (hm2.trans h)))
        have H5 := hide ((unhide HX).2.1.trans (hB5.mono (unhide HX).2.1.size))
        clear hm2 HX hB5 HM H3 H4 hsz
        go_wp2_with fail
        refine (allCatch n _ hn).mono ?_
        rintro e w6 ⟨rfl, hT6, hB6, hs6⟩
        have H6 := hide (And.intro hT6 ((unhide H5).trans (hB6.mono (unhide H5).size)))
        clear hT6 hB6 hs6
        go_wp2_with fail
        refine (zz_any a n cap n w5.heap.size A L C S (fun _ => true) (fun _ => ByteArray.empty) _ hn hn (HS.out.mono (unhide H6).2) (unhide H6).1 (by intro i _; simp)).mono ?_
        rintro e w7 ⟨rfl, hB7⟩
        rw [match_all]
        have hB := (unhide H6).2.trans (hB7.mono (unhide H6).2.size)
        have HB := hide hB
        clear hB hB7 H5 H6 hv HS HK
        rcases HP.out with ⟨rfl, rfl⟩ | ⟨rfl, hkk⟩
        · clear HP
          by_cases hkk : kn = n
          · have he : ((kn : Int) == (n : Int)) = true := by simp [hkk]
            clear hkk
            go_wp2_with fail
            go_ret
            exact ⟨rfl, unhide HB⟩
          · have he : ((kn : Int) == (n : Int)) = false := by simp; omega
            clear hkk
            go_wp2_with fail
            go_ret
            exact ⟨rfl, unhide HB⟩
        · clear HP
          have he : ((kn : Int) == (n : Int)) = true := by simp [hkk]
          clear hkk
          cases m
          · go_wp2_with fail
            go_ret
            exact ⟨rfl, unhide HB⟩
          · go_wp2_with fail
            go_ret
            exact ⟨rfl, unhide HB⟩
      · have HX := hide (And.intro hT4 (And.intro (unhide H4).2.1 (And.intro hv.out (fun h : matchB n kn c v L S = true => h))))
        clear hT4 hB4 hs4
        go_wp2_with fail
        refine (zz_any a n cap kn w3.heap.size A L C S c v _ hn hkn (HS.out.mono (unhide HX).2.1) (unhide HX).1 (unhide HX).2.2.1).mono ?_
        rintro e w5 ⟨rfl, hB5⟩
        generalize hm2 : matchB n kn c v L S = m2
        have HP := hide (plain_law n kn m m2 (fun h => by rw [← hm2]; exact (unhide HX).2.2.2 ((unhide HM).trans h)) (fun h => match_len (hm2.trans h)))
        have H5 := hide ((unhide HX).2.1.trans (hB5.mono (unhide HX).2.1.size))
        clear hm2 HX hB5 HM H3 H4 hsz
        go_wp2_with fail
        refine (allCatch n _ hn).mono ?_
        rintro e w6 ⟨rfl, hT6, hB6, hs6⟩
        have H6 := hide (And.intro hT6 ((unhide H5).trans (hB6.mono (unhide H5).size)))
        clear hT6 hB6 hs6
        go_wp2_with fail
        refine (zz_any a n cap n w5.heap.size A L C S (fun _ => true) (fun _ => ByteArray.empty) _ hn hn (HS.out.mono (unhide H6).2) (unhide H6).1 (by intro i _; simp)).mono ?_
        rintro e w7 ⟨rfl, hB7⟩
        rw [match_all]
        have hB := (unhide H6).2.trans (hB7.mono (unhide H6).2.size)
        have HB := hide hB
        clear hB hB7 H5 H6 hv HS HK
        rcases HP.out with ⟨rfl, rfl⟩ | ⟨rfl, hkk⟩
        · clear HP
          by_cases hkk : kn = n
          · have he : ((kn : Int) == (n : Int)) = true := by simp [hkk]
            clear hkk
            go_wp2_with fail
            go_ret
            exact ⟨rfl, unhide HB⟩
          · have he : ((kn : Int) == (n : Int)) = false := by simp; omega
            clear hkk
            go_wp2_with fail
            go_ret
            exact ⟨rfl, unhide HB⟩
        · clear HP
          have he : ((kn : Int) == (n : Int)) = true := by simp [hkk]
          clear hkk
          cases m
          · go_wp2_with fail
            go_ret
            exact ⟨rfl, unhide HB⟩
          · go_wp2_with fail
            go_ret
            exact ⟨rfl, unhide HB⟩

end Go.Proofs.Qxb6614061a
