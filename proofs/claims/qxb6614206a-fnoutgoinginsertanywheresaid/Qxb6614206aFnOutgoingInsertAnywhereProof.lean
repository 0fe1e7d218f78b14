/-
  THE PROOF of 'Rows.FnOutgoingInsertAnywhereSaid': the frame is that of the kit's own tool (howto/shells/proof-skeleton.mjs), turned by hand to this law's parameters; the walk comes out of the texts that are imported.
-/
import Derived.Test.Qxb6614206aRows
import Derived.Test.Qxb6614206aIns
import Derived.Test.Qxb6614206aOpen
import Derived.WalkKit
import Derived.ProofKit
import Derived.OpenShut
import Derived.ShutString
import Derived.ChangeOld
import Derived.Below
namespace Go.Proofs.Qxb6614206a.fnOutgoingInsertAnywhere
open Go.ChangeShapes Go.WideShapes Go.ChangeAt Go.RowKit
open Go.ChangeMaps (open_string shut_string)
set_option linter.unusedVariables false
set_option linter.unusedSimpArgs false

theorem own : ownKnob Try.prog.godebug = none := by kernel_rfl
theorem laidOut : laidOutB Try.prog = true := by kernel_rfl

set_option maxRecDepth 100000 in
set_option maxHeartbeats 4000000 in
theorem walk (a : Option Addr) (cap : Nat) (k : Int) (id x1 x2 x3 : ByteArray) (q : Bool) (l : List Ed) (w : World) (hl : l.length ≤ maxLen) (hE : EL w a l) (hS : Sz l) (s0 : id.size ≤ maxLen) (s1 : x1.size ≤ maxLen) (s2 : x2.size ≤ maxLen) (s3 : x3.size ≤ maxLen) :
    Calls Try.prog 3 #[.slice a l.length cap, .string id, .int .i64 k, .string x1, .string x2, .string x3, .bool q] w fun e w' => e = .returned (.bool true) ∧ Below w.heap.size w w' := by
  by_cases h1 : 1048576 < l.length
  · generalize l.length = n at h1 hl ⊢
    clear hE hS s0 s1 s2 s3 hl
    go_enter Try.func3, Try.ntmps3
    go_wp2_with fail
    refine (bytes5_long a cap n k id x1 x2 x3 q _ h1).mono ?_
    rintro e w' ⟨⟨r, rfl⟩, rfl⟩
    cases r
    · go_wp2_with fail
      go_ret
      exact ⟨rfl, Below.refl _ _⟩
    · go_wp2_with fail
      go_ret
      exact ⟨rfl, Below.refl _ _⟩
  · by_cases hm : l.length ≤ 65536 ∧ id.size ≤ 65536 ∧ x1.size ≤ 65536 ∧ x2.size ≤ 65536 ∧ x3.size ≤ 65536 ∧ 0 ≤ k ∧ k ≤ (l.length : Int)
    · obtain ⟨m1, m2, m3, m4, m5, m6, m7⟩ := hm
      obtain ⟨kn, rfl⟩ := Int.eq_ofNat_of_zero_le m6
      exact ins_main a cap kn id x1 x2 x3 q l w m1 hE hS m2 m3 m4 m5 (by omega)
    · have hb := bytes5_any a cap k 0 id x1 x2 x3 q l w (by omega) hE hS s0 s1 s2 s3
      have hb2 := over_any a cap ((id.size : Int) + x1.size + x2.size + x3.size) 1048576 l w (by omega) hE hS
      clear hE hS
      generalize l.length = n at h1 hm hb hb2 hl ⊢
      have HB := hide hb
      have HB2 := hide hb2
      clear hb hb2 hl
      unfold maxLen at s0 s1 s2 s3
      rcases (show 65536 < n ∨ (n ≤ 65536 ∧ 65536 < id.size) ∨ (n ≤ 65536 ∧ id.size ≤ 65536 ∧ 65536 < x1.size) ∨ (n ≤ 65536 ∧ id.size ≤ 65536 ∧ x1.size ≤ 65536 ∧ 65536 < x2.size) ∨ (n ≤ 65536 ∧ id.size ≤ 65536 ∧ x1.size ≤ 65536 ∧ x2.size ≤ 65536 ∧ 65536 < x3.size) ∨
        (n ≤ 65536 ∧ id.size ≤ 65536 ∧ x1.size ≤ 65536 ∧ x2.size ≤ 65536 ∧ x3.size ≤ 65536 ∧ k < 0) ∨ (n ≤ 65536 ∧ id.size ≤ 65536 ∧ x1.size ≤ 65536 ∧ x2.size ≤ 65536 ∧ x3.size ≤ 65536 ∧ 0 ≤ k ∧ (n : Int) < k) by omega) with
        m1 | ⟨m1, m2⟩ | ⟨m1, m2, m3⟩ | ⟨m1, m2, m3, m4⟩ | ⟨m1, m2, m3, m4, m5⟩ | ⟨m1, m2, m3, m4, m5, m6⟩ | ⟨m1, m2, m3, m4, m5, m6, m7⟩
      all_goals
        clear hm
        go_enter Try.func3, Try.ntmps3
        go_wp2_with fail
        refine (unhide HB).mono ?_
        rintro e w' ⟨⟨r, rfl⟩, rfl⟩
        cases r
        · go_wp2_with fail
          go_ret
          exact ⟨rfl, Below.refl _ _⟩
        · go_wp2_with (go_at_call 6; refine (unhide HB2).mono ?_; rintro e w2 ⟨⟨r2, rfl⟩, rfl⟩; cases r2)
          all_goals
            go_ret
            exact ⟨rfl, Below.refl _ _⟩


set_option maxRecDepth 100000 in
theorem lifted (os : Os) (started : os.Started) (H : Type) (enc : TypeId × Value → H) :
    ReturnsInHanded {} Try.checked os 3 .any (Rows.fnOutgoingInsertAnywhereSpec.pre6 enc Try.prog Try.f3 Rows.fnOutgoingInsertAnywhereRow.domain false) (Rows.fnOutgoingInsertAnywhereSpec.post enc Try.prog Try.f3 false true false false) := by
  refine returnsInHanded_of_change (C := Try.checked) own started (by kernel_rfl) Try.func3
    (ChangeSpec.witness6 (enc := enc) (C := Try.checked) false ⟨#[], #[.slice none 0 0, .string ByteArray.empty, .int .i64 0, .string ByteArray.empty, .string ByteArray.empty, .string ByteArray.empty, .bool false], []⟩ 8 (by kernel_rfl) (by kernel_rfl) (by kernel_rfl) (by kernel_rfl)) ?_
  intro W base args ds gs before hval0 hW hcnd _
  have hval : ∀ (j : Nat) t v, Try.f3.params[j]? = some t → args[j]? = some v → Value.okWide Try.prog W .any base t v := hval0
  have hW' := hW
  obtain ⟨p, q, hA0, hV, rfl, hfz, hnd⟩ := hW
  have hA : DataW.TrodAll enc Try.prog W 0 (fun _ => true) true Try.f3.params.toList args.toList ds p := hA0
  rw [Try.params3] at hA hval
  obtain ⟨v0, vs0, d0, ds0, p0, q0, hargs, rfl, rfl, h0, r0⟩ := trodAll_cons hA
  obtain ⟨v1, vs1, d1, ds1, p1, q1, rfl, rfl, rfl, h1, r1⟩ := trodAll_cons r0
  obtain ⟨v2, vs2, d2, ds2, p2, q2, rfl, rfl, rfl, h2, r2⟩ := trodAll_cons r1
  obtain ⟨v3, vs3, d3, ds3, p3, q3, rfl, rfl, rfl, h3, r3⟩ := trodAll_cons r2
  obtain ⟨v4, vs4, d4, ds4, p4, q4, rfl, rfl, rfl, h4, r4⟩ := trodAll_cons r3
  obtain ⟨v5, vs5, d5, ds5, p5, q5, rfl, rfl, rfl, h5, r5⟩ := trodAll_cons r4
  obtain ⟨v6, vs6, d6, ds6, p6, q6, rfl, rfl, rfl, h6, r6⟩ := trodAll_cons r5
  obtain ⟨rfl, rfl, rfl⟩ := trodAll_nil r6
  obtain rfl : args = #[v0, v1, v2, v3, v4, v5, v6] := by cases args; simp_all
  obtain ⟨rfl, rfl⟩ := trodVars_none hV
  have k0 := h0
  have lt0 : ∀ x ∈ p0, x.block < W.heap.size := by obtain ⟨m, hm⟩ := k0; exact DataW.trod_lt m _ _ _ hm
  have k1 := h1
  have lt1 : ∀ x ∈ p1, x.block < W.heap.size := by obtain ⟨m, hm⟩ := k1; exact DataW.trod_lt m _ _ _ hm
  have k2 := h2
  have lt2 : ∀ x ∈ p2, x.block < W.heap.size := by obtain ⟨m, hm⟩ := k2; exact DataW.trod_lt m _ _ _ hm
  have k3 := h3
  have lt3 : ∀ x ∈ p3, x.block < W.heap.size := by obtain ⟨m, hm⟩ := k3; exact DataW.trod_lt m _ _ _ hm
  have k4 := h4
  have lt4 : ∀ x ∈ p4, x.block < W.heap.size := by obtain ⟨m, hm⟩ := k4; exact DataW.trod_lt m _ _ _ hm
  have k5 := h5
  have lt5 : ∀ x ∈ p5, x.block < W.heap.size := by obtain ⟨m, hm⟩ := k5; exact DataW.trod_lt m _ _ _ hm
  have k6 := h6
  have lt6 : ∀ x ∈ p6, x.block < W.heap.size := by obtain ⟨m, hm⟩ := k6; exact DataW.trod_lt m _ _ _ hm
  obtain ⟨a0, len0, cap0, rfl⟩ := okWide_slice Try.underlying22 (hval 0 22 v0 rfl rfl)
  obtain ⟨id, rfl, rfl, rfl, w1⟩ := open_string Try.underlying9 (hval 1 9 v1 rfl rfl) h1
  obtain ⟨k, rfl, rfl, rfl, w2⟩ := open_int Try.underlying3 (hval 2 3 v2 rfl rfl) h2
  obtain ⟨x1, rfl, rfl, rfl, w3⟩ := open_string Try.underlying9 (hval 3 9 v3 rfl rfl) h3
  obtain ⟨x2, rfl, rfl, rfl, w4⟩ := open_string Try.underlying9 (hval 4 9 v4 rfl rfl) h4
  obtain ⟨x3, rfl, rfl, rfl, w5⟩ := open_string Try.underlying9 (hval 5 9 v5 rfl rfl) h5
  obtain ⟨q6, rfl, rfl, rfl⟩ := open_bool Try.underlying4 (hval 6 4 v6 rfl rfl) h6
  obtain ⟨l, hE, hS, rfl, hlen⟩ : ∃ l, EL W a0 l ∧ Sz l ∧ l.length = len0 ∧ len0 ≤ maxLen := by
    obtain ⟨fuel, hf⟩ := h0
    exact open_edges (by simpa [Value.cells] using hf)
  clear hA0 hval0
  refine (walk a0 cap0 k id x1 x2 x3 q6 l W hlen hE hS w1 w3 w4 w5).mono fun e W' ⟨he, bel⟩ => ?_
  subst he
  exact ⟨_, rfl, _, _, _, [], _, [], hW', trodAll_mk1 (shut_bool Try.underlying4 _), (trodAll_cons_mk (Below.trod laidOut (by kernel_rfl) (of_decide_eq_true (by kernel_rfl)) k0 bel lt0) (trodAll_cons_mk (Below.trod laidOut (by kernel_rfl) (of_decide_eq_true (by kernel_rfl)) k1 bel lt1) (trodAll_cons_mk (Below.trod laidOut (by kernel_rfl) (of_decide_eq_true (by kernel_rfl)) k2 bel lt2) (trodAll_cons_mk (Below.trod laidOut (by kernel_rfl) (of_decide_eq_true (by kernel_rfl)) k3 bel lt3) (trodAll_cons_mk (Below.trod laidOut (by kernel_rfl) (of_decide_eq_true (by kernel_rfl)) k4 bel lt4) (trodAll_cons_mk (Below.trod laidOut (by kernel_rfl) (of_decide_eq_true (by kernel_rfl)) k5 bel lt5) (trodAll_cons_mk (Below.trod laidOut (by kernel_rfl) (of_decide_eq_true (by kernel_rfl)) k6 bel lt6) trodAll_mk0))))))), rfl, bel.frame _, fun h => by cases h⟩

theorem over : Rows.fnOutgoingInsertAnywhereRow.holds Try.pinned (OpenSpec.ofChange Rows.fnOutgoingInsertAnywhereSpec) :=
  OpenClaim.holds_of_wide 3 Try.f3 rfl rfl rfl rfl rfl rfl rfl ⟨rfl, rfl, rfl, rfl, rfl⟩ rfl rfl rfl rfl rfl (by kernel_rfl) Try.func3 (by kernel_rfl)
    (of_decide_eq_true (by kernel_rfl)) (by unfold Func.isWrapper; first | (rw [if_pos (by decide +kernel)]; kernel_rfl) | (rw [if_neg (by decide +kernel)]; exact ⟨rfl, rfl⟩))
    (fun os started H enc _ => lifted os started H enc)

/-- THE STATEMENT -/
theorem proved : Rows.FnOutgoingInsertAnywhereSaid := over
#print axioms proved
end Go.Proofs.Qxb6614206a.fnOutgoingInsertAnywhere
