/-
  THE PROOF of 'Rows.FnOutgoingSplitAndPlaceSaid': the frame is that of the kit's own tool (howto/shells/proof-skeleton.mjs), turned by hand to this law's parameters; the walk comes out of the texts that are imported.
-/
import Derived.Test.Qxb6614206aRows
import Derived.Test.Qxb6614206aSplit
import Derived.Test.Qxb6614206aOpen
import Derived.WalkKit
import Derived.ProofKit
import Derived.OpenShut
import Derived.ShutString
import Derived.ChangeOld
import Derived.Below
namespace Go.Proofs.Qxb6614206a.fnOutgoingSplitAndPlace
open Go.ChangeShapes Go.WideShapes Go.ChangeAt Go.RowKit
open Go.ChangeMaps (open_string shut_string)
set_option linter.unusedVariables false
set_option linter.unusedSimpArgs false

theorem own : ownKnob Try.prog.godebug = none := by kernel_rfl
theorem laidOut : laidOutB Try.prog = true := by kernel_rfl

theorem walk (a : Option Addr) (cap : Nat) (k j : Int) (id : ByteArray) (l : List Ed) (w : World) (hl : l.length ≤ maxLen) (hE : EL w a l) (hS : Sz l) (s0 : id.size ≤ maxLen) :
    Calls Try.prog 4 #[.slice a l.length cap, .string id, .int .i64 k, .int .i64 j] w fun e w' => e = .returned (.bool true) ∧ Below w.heap.size w w' := by
  by_cases h1 : 1048576 < l.length
  · generalize l.length = n at h1 hl ⊢
    clear hE hS s0 hl
    go_enter Try.func4, Try.ntmps4
    go_wp2_with fail
    refine (bytes10_long a cap n k j id _ h1).mono ?_
    rintro e w' ⟨⟨r, rfl⟩, rfl⟩
    cases r
    · go_wp2_with fail
      go_ret
      exact ⟨rfl, Below.refl _ _⟩
    · go_wp2_with fail
      go_ret
      exact ⟨rfl, Below.refl _ _⟩
  · by_cases hm : l.length ≤ 65536 ∧ id.size ≤ 65536 ∧ 0 ≤ k ∧ k ≤ (l.length : Int)
    · obtain ⟨m1, m2, m3, m4⟩ := hm
      obtain ⟨kn, rfl⟩ := Int.eq_ofNat_of_zero_le m3
      exact split_main a cap kn j id l w m1 hE hS s0 m2 (by omega)
    · have HE := hide hE
      have HS := hide hS
      have hb := bytes10_any a cap k j id l w (by omega) hE hS s0
      have hb2 := over_any a cap id.size 1048576 l w (by omega) hE hS
      clear hE hS
      generalize l.length = n at h1 hm hb hb2 hl ⊢
      have HB := hide hb
      have HB2 := hide hb2
      clear hb hb2 hl
      unfold maxLen at s0
      rcases (show 65536 < n ∨ (n ≤ 65536 ∧ 65536 < id.size) ∨ (n ≤ 65536 ∧ id.size ≤ 65536 ∧ k < 0) ∨ (n ≤ 65536 ∧ id.size ≤ 65536 ∧ 0 ≤ k ∧ (n : Int) < k) by omega) with m1 | ⟨m1, m2⟩ | ⟨m1, m2, m3⟩ | ⟨m1, m2, m3, m4⟩
      all_goals
        clear hm
        go_enter Try.func4, Try.ntmps4
        go_wp2_with fail
        refine (unhide HB).mono ?_
        rintro e w' ⟨⟨r, rfl⟩, rfl⟩
        cases r
        · go_wp2_with fail
          go_ret
          exact ⟨rfl, Below.refl _ _⟩
        · go_wp2_with (go_at_call 6; refine (unhide HB2).mono ?_; rintro e w2 ⟨⟨r2, rfl⟩, rfl⟩; cases r2)
          all_goals
            go_ret
            exact ⟨rfl, Below.refl _ _⟩


set_option maxRecDepth 100000 in
theorem lifted (os : Os) (started : os.Started) (H : Type) (enc : TypeId × Value → H) :
    ReturnsInHanded {} Try.checked os 4 .any (Rows.fnOutgoingSplitAndPlaceSpec.pre6 enc Try.prog Try.f4 Rows.fnOutgoingSplitAndPlaceRow.domain false) (Rows.fnOutgoingSplitAndPlaceSpec.post enc Try.prog Try.f4 false true false false) := by
  refine returnsInHanded_of_change (C := Try.checked) own started (by kernel_rfl) Try.func4
    (ChangeSpec.witness6 (enc := enc) (C := Try.checked) false ⟨#[], #[.slice none 0 0, .string ByteArray.empty, .int .i64 0, .int .i64 0], []⟩ 8 (by kernel_rfl) (by kernel_rfl) (by kernel_rfl) (by kernel_rfl)) ?_
  intro W base args ds gs before hval0 hW hcnd _
  have hval : ∀ (j : Nat) t v, Try.f4.params[j]? = some t → args[j]? = some v → Value.okWide Try.prog W .any base t v := hval0
  have hW' := hW
  obtain ⟨p, q, hA0, hV, rfl, hfz, hnd⟩ := hW
  have hA : DataW.TrodAll enc Try.prog W 0 (fun _ => true) true Try.f4.params.toList args.toList ds p := hA0
  rw [Try.params4] at hA hval
  obtain ⟨v0, vs0, d0, ds0, p0, q0, hargs, rfl, rfl, h0, r0⟩ := trodAll_cons hA
  obtain ⟨v1, vs1, d1, ds1, p1, q1, rfl, rfl, rfl, h1, r1⟩ := trodAll_cons r0
  obtain ⟨v2, vs2, d2, ds2, p2, q2, rfl, rfl, rfl, h2, r2⟩ := trodAll_cons r1
  obtain ⟨v3, vs3, d3, ds3, p3, q3, rfl, rfl, rfl, h3, r3⟩ := trodAll_cons r2
  obtain ⟨rfl, rfl, rfl⟩ := trodAll_nil r3
  obtain rfl : args = #[v0, v1, v2, v3] := by cases args; simp_all
  obtain ⟨rfl, rfl⟩ := trodVars_none hV
  have k0 := h0
  have lt0 : ∀ x ∈ p0, x.block < W.heap.size := by obtain ⟨m, hm⟩ := k0; exact DataW.trod_lt m _ _ _ hm
  have k1 := h1
  have lt1 : ∀ x ∈ p1, x.block < W.heap.size := by obtain ⟨m, hm⟩ := k1; exact DataW.trod_lt m _ _ _ hm
  have k2 := h2
  have lt2 : ∀ x ∈ p2, x.block < W.heap.size := by obtain ⟨m, hm⟩ := k2; exact DataW.trod_lt m _ _ _ hm
  have k3 := h3
  have lt3 : ∀ x ∈ p3, x.block < W.heap.size := by obtain ⟨m, hm⟩ := k3; exact DataW.trod_lt m _ _ _ hm
  obtain ⟨a0, len0, cap0, rfl⟩ := okWide_slice Try.underlying22 (hval 0 22 v0 rfl rfl)
  obtain ⟨id, rfl, rfl, rfl, w1⟩ := open_string Try.underlying9 (hval 1 9 v1 rfl rfl) h1
  obtain ⟨k, rfl, rfl, rfl, w2⟩ := open_int Try.underlying3 (hval 2 3 v2 rfl rfl) h2
  obtain ⟨j, rfl, rfl, rfl, w3⟩ := open_int Try.underlying3 (hval 3 3 v3 rfl rfl) h3
  obtain ⟨l, hE, hS, rfl, hlen⟩ : ∃ l, EL W a0 l ∧ Sz l ∧ l.length = len0 ∧ len0 ≤ maxLen := by
    obtain ⟨fuel, hf⟩ := h0
    exact open_edges (by simpa [Value.cells] using hf)
  clear hA0 hval0
  refine (walk a0 cap0 k j id l W hlen hE hS w1).mono fun e W' ⟨he, bel⟩ => ?_
  subst he
  exact ⟨_, rfl, _, _, _, [], _, [], hW', trodAll_mk1 (shut_bool Try.underlying4 _), (trodAll_cons_mk (Below.trod laidOut (by kernel_rfl) (of_decide_eq_true (by kernel_rfl)) k0 bel lt0) (trodAll_cons_mk (Below.trod laidOut (by kernel_rfl) (of_decide_eq_true (by kernel_rfl)) k1 bel lt1) (trodAll_cons_mk (Below.trod laidOut (by kernel_rfl) (of_decide_eq_true (by kernel_rfl)) k2 bel lt2) (trodAll_cons_mk (Below.trod laidOut (by kernel_rfl) (of_decide_eq_true (by kernel_rfl)) k3 bel lt3) trodAll_mk0)))), rfl, bel.frame _, fun h => by cases h⟩

theorem over : Rows.fnOutgoingSplitAndPlaceRow.holds Try.pinned (OpenSpec.ofChange Rows.fnOutgoingSplitAndPlaceSpec) :=
  OpenClaim.holds_of_wide 4 Try.f4 rfl rfl rfl rfl rfl rfl rfl ⟨rfl, rfl, rfl, rfl, rfl⟩ rfl rfl rfl rfl rfl (by kernel_rfl) Try.func4 (by kernel_rfl)
    (of_decide_eq_true (by kernel_rfl)) (by unfold Func.isWrapper; first | (rw [if_pos (by decide +kernel)]; kernel_rfl) | (rw [if_neg (by decide +kernel)]; exact ⟨rfl, rfl⟩))
    (fun os started H enc _ => lifted os started H enc)

/-- THE STATEMENT -/
theorem proved : Rows.FnOutgoingSplitAndPlaceSaid := over
#print axioms proved
end Go.Proofs.Qxb6614206a.fnOutgoingSplitAndPlace
