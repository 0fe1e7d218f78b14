/-
  THE PROOF of 'Rows.FnMatchesAllFallbackAlwaysMatchesSaid': the frame is that of the kit's own tool (howto/shells/proof-skeleton.mjs), turned by hand to this law's parameters; the walk comes out of the texts that are imported.
-/
import Derived.Test.Qxb6614061aRows
import Derived.Test.Qxb6614061aOpen
import Derived.WalkKit
import Derived.ProofKit
import Derived.OpenShut
import Derived.ShutString
import Derived.ChangeOld
import Derived.Below
namespace Go.Proofs.Qxb6614061a.fnMatchesAllFallbackAlwaysMatches
open Go.ChangeShapes Go.WideShapes Go.ChangeAt Go.RowKit
open Go.ChangeMaps (open_string shut_string)
set_option linter.unusedVariables false
set_option linter.unusedSimpArgs false

theorem own : ownKnob Try.prog.godebug = none := by kernel_rfl
theorem laidOut : laidOutB Try.prog = true := by kernel_rfl

theorem walk (a ka : Option Addr) (n cap kn kcap : Nat) (j : Int) (A : Nat → Option Addr) (L C : Nat → Nat) (S : Nat → Nat → ByteArray) (c : Nat → Bool) (v : Nat → ByteArray) (w : World)
    (hkn0 : kn ≤ maxLen) (hS : Sets w a n A L C S) (hK : Keys w ka kn c v) :
    Calls Try.prog 3 #[.slice a n cap, .slice ka kn kcap, .int .i64 j] w fun e w' => e = .returned (.bool true) ∧ Below w.heap.size w w' := by
  by_cases hn : 1048576 < n
  · clear hS hK hkn0
    go_enter Try.func3, Try.ntmps3
    go_wp2_with fail
    refine (bytes_long a ka n cap kn kcap j _ hn).mono ?_
    rintro e w' ⟨he, rfl⟩
    rcases he with rfl | ⟨_, h, _⟩
    · go_wp2_with fail
      go_ret
      exact ⟨rfl, Below.refl _ _⟩
    · omega
  · by_cases hkn : 1048576 < kn
    · have HS := hide hS
      have HK := hide hK
      clear hS hK
      go_enter Try.func3, Try.ntmps3
      go_wp2_with fail
      refine (bytes_any a ka n cap kn kcap j A L C S c v _ (by omega) hkn0 HS.out HK.out).mono ?_
      rintro e w' ⟨he, rfl⟩
      rcases he with rfl | ⟨_, _, h⟩
      · clear hkn0
        go_wp2_with fail
        go_ret
        exact ⟨rfl, Below.refl _ _⟩
      · omega
    · by_cases hj : 0 ≤ j ∧ j ≤ kn
      · obtain ⟨jn, rfl⟩ := Int.eq_ofNat_of_zero_le hj.1
        exact main_walk a ka n cap kn kcap jn A L C S c v w hkn0 hS hK (by omega) (by omega) (by omega)
      · have HS := hide hS
        have HK := hide hK
        clear hS hK
        rcases (show j < 0 ∨ (0 ≤ j ∧ (kn : Int) < j) by omega) with h1 | ⟨h1, h2⟩
        all_goals
          go_enter Try.func3, Try.ntmps3
          go_wp2_with fail
          refine (bytes_any a ka n cap kn kcap j A L C S c v _ (by omega) hkn0 HS.out HK.out).mono ?_
          rintro e w' ⟨he, rfl⟩
          rcases he with rfl | ⟨rfl, _, _⟩
          · go_wp2_with fail
            go_ret
            exact ⟨rfl, Below.refl _ _⟩
          · go_wp2_with fail
            refine (size_any a ka n cap kn kcap A L C S c v _ (by omega) (by omega) HS.out HK.out).mono ?_
            rintro e w1 ⟨⟨z, rfl⟩, rfl⟩
            clear hkn0
            by_cases hz : 1048576 < z
            · go_wp2_with fail
              go_ret
              exact ⟨rfl, Below.refl _ _⟩
            · go_wp2_with fail
              go_ret
              exact ⟨rfl, Below.refl _ _⟩


set_option maxRecDepth 100000 in
theorem lifted (os : Os) (started : os.Started) (H : Type) (enc : TypeId × Value → H) :
    ReturnsInHanded {} Try.checked os 3 .any (Rows.fnMatchesAllFallbackAlwaysMatchesSpec.pre6 enc Try.prog Try.f3 Rows.fnMatchesAllFallbackAlwaysMatchesRow.domain false) (Rows.fnMatchesAllFallbackAlwaysMatchesSpec.post enc Try.prog Try.f3 false true false false) := by
  refine returnsInHanded_of_change (C := Try.checked) own started (by kernel_rfl) Try.func3
    (ChangeSpec.witness6 (enc := enc) (C := Try.checked) false ⟨#[], #[.slice none 0 0, .slice none 0 0, .int .i64 0], []⟩ 8 (by kernel_rfl) (by kernel_rfl) (by kernel_rfl) (by kernel_rfl)) ?_
  intro W base args ds gs before hval0 hW hcnd _
  have hval : ∀ (j : Nat) t v, Try.f3.params[j]? = some t → args[j]? = some v → Value.okWide Try.prog W .any base t v := hval0
  have hW' := hW
  obtain ⟨p, q, hA0, hV, rfl, hfz, hnd⟩ := hW
  have hA : DataW.TrodAll enc Try.prog W 0 (fun _ => true) true Try.f3.params.toList args.toList ds p := hA0
  rw [Try.params3] at hA hval
  obtain ⟨v0, vs0, d0, ds0, p0, q0, hargs, rfl, rfl, h0, r0⟩ := trodAll_cons hA
  obtain ⟨v1, vs1, d1, ds1, p1, q1, rfl, rfl, rfl, h1, r1⟩ := trodAll_cons r0
  obtain ⟨v2, vs2, d2, ds2, p2, q2, rfl, rfl, rfl, h2, r2⟩ := trodAll_cons r1
  obtain ⟨rfl, rfl, rfl⟩ := trodAll_nil r2
  obtain rfl : args = #[v0, v1, v2] := by cases args; simp_all
  obtain ⟨rfl, rfl⟩ := trodVars_none hV
  have k0 := h0
  have lt0 : ∀ x ∈ p0, x.block < W.heap.size := by obtain ⟨m, hm⟩ := k0; exact DataW.trod_lt m _ _ _ hm
  have k1 := h1
  have lt1 : ∀ x ∈ p1, x.block < W.heap.size := by obtain ⟨m, hm⟩ := k1; exact DataW.trod_lt m _ _ _ hm
  have k2 := h2
  have lt2 : ∀ x ∈ p2, x.block < W.heap.size := by obtain ⟨m, hm⟩ := k2; exact DataW.trod_lt m _ _ _ hm
  obtain ⟨a0, len0, cap0, rfl⟩ := okWide_slice Try.underlying22 (hval 0 22 v0 rfl rfl)
  obtain ⟨a1, len1, cap1, rfl⟩ := okWide_slice Try.underlying23 (hval 1 23 v1 rfl rfl)
  obtain ⟨j, rfl, rfl, rfl, wj⟩ := open_int Try.underlying3 (hval 2 3 v2 rfl rfl) h2
  obtain ⟨A, L, C, S, hS⟩ : ∃ A L C S, Sets W a0 len0 A L C S := by
    obtain ⟨fuel, hf⟩ := h0
    exact open_sets (by simpa [Value.cells] using hf)
  obtain ⟨c, v, hK, hkn⟩ : ∃ c v, Keys W a1 len1 c v ∧ len1 ≤ maxLen := by
    obtain ⟨fuel, hf⟩ := h1
    exact open_keys (by simpa [Value.cells] using hf)
  clear hA0 hval0
  refine (walk a0 a1 len0 cap0 len1 cap1 j A L C S c v W hkn hS hK).mono fun e W' ⟨he, bel⟩ => ?_
  subst he
  exact ⟨_, rfl, _, _, _, [], _, [], hW', trodAll_mk1 (shut_bool Try.underlying4 _), (trodAll_cons_mk (Below.trod laidOut (by kernel_rfl) (of_decide_eq_true (by kernel_rfl)) k0 bel lt0) (trodAll_cons_mk (Below.trod laidOut (by kernel_rfl) (of_decide_eq_true (by kernel_rfl)) k1 bel lt1) (trodAll_cons_mk (Below.trod laidOut (by kernel_rfl) (of_decide_eq_true (by kernel_rfl)) k2 bel lt2) trodAll_mk0))), rfl, bel.frame _, fun h => by cases h⟩

theorem over : Rows.fnMatchesAllFallbackAlwaysMatchesRow.holds Try.pinned (OpenSpec.ofChange Rows.fnMatchesAllFallbackAlwaysMatchesSpec) :=
  OpenClaim.holds_of_wide 3 Try.f3 rfl rfl rfl rfl rfl rfl rfl ⟨rfl, rfl, rfl, rfl, rfl⟩ rfl rfl rfl rfl rfl (by kernel_rfl) Try.func3 (by kernel_rfl)
    (of_decide_eq_true (by kernel_rfl)) (by unfold Func.isWrapper; first | (rw [if_pos (by decide +kernel)]; kernel_rfl) | (rw [if_neg (by decide +kernel)]; exact ⟨rfl, rfl⟩))
    (fun os started H enc _ => lifted os started H enc)

/-- THE STATEMENT -/
theorem proved : Rows.FnMatchesAllFallbackAlwaysMatchesSaid := over
#print axioms proved
end Go.Proofs.Qxb6614061a.fnMatchesAllFallbackAlwaysMatches
