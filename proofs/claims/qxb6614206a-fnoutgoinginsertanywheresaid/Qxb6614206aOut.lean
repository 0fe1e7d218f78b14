import Derived.Test.Qxb6614206aTo
set_option linter.unusedVariables false
set_option linter.unusedSimpArgs false
namespace Go.Proofs.Qxb6614206a
open Go.RowKit

/-- The edges that leave id. -/
def leaves (id : ByteArray) (e : Ed) : Bool := e.src.toList == id.toList
def outE (id : ByteArray) (l : List Ed) : List Ed := l.filter (leaves id)

/-- 'append(s, x...)' at the operation. -/
theorem wpList_app (w : World) {ops : Array Oper} {rest : List Oper} {o : Oper} {a : Act} {Q : Exit → Act → World → Prop} (hgd : o.guard = .none) (s x : Operand)
    (ho : o.op = .call { callee := .builtin .append, args := #[s, x], argTypes := #[25, 25] }) (base : Nat) (v : Value) (l1 l2 : List Ed) (ad : Option Addr) (c : Nat) (hs : a.eval s = v) (hx : a.eval x = .slice ad l2.length c)
    (hown : Own w base v l1) (hsrc : EL w ad l2) (hpl : ad = .none ∨ ∃ b off, ad = some ⟨b, off, .none⟩) (hnil : ad = .none → l2 = []) (hlen : l1.length + l2.length ≤ 1048576) (hbase : base ≤ w.heap.size)
    (hK : ∀ v' w', Own w' base v' (l1 ++ l2) → w.grownBy w' v.ownBlock → wpList Try.prog ops Q rest (a.put o.dst v') w') : wpList Try.prog ops Q (o :: rest) a w := by
  refine wpList_plain hgd fun K' hK' => ?_
  obtain ⟨v', w', hrun, h1, h2⟩ := run_app w base v l1 l2 ad c hown hsrc hpl hnil hlen hbase o.type
  unfold Oper.wp execOp
  simp only [ho, resolve, invoke, builtin, Sem.run_bind, Sem.run_pure, Result.andThen_ok, List.map_toArray, List.map_cons, List.map_nil, hs, hx, hrun]
  exact hK' _ _ (hK v' w' h1 h2)

theorem EL.one (w : World) (e : Ed) : EL (w.alloc (.cells #[.string e.id, .string e.src, .string e.dst, .bool e.err] 28)) (some ⟨w.heap.size, 0, .none⟩) [e] := by
  intro i e' he
  have hi : i = 0 := by
    rcases Nat.eq_zero_or_pos i with h | h
    · exact h
    · rw [List.getElem?_eq_none (by simp; omega)] at he; cases he
  subst hi
  simp at he
  subst he
  refine ⟨w.heap.size, 0, rfl, by simp, ?_, ?_, ?_, ?_⟩ <;> simp

theorem EL.one' (w : World) (n : Nat) (hn : w.heap.size = n) (e : Ed) : EL (w.alloc (.cells #[.string e.id, .string e.src, .string e.dst, .bool e.err] 28)) (some ⟨n, 0, .none⟩) [e] := by
  subst hn
  exact EL.one w e

theorem Own.alloc {w : World} {base : Nat} {v : Value} {l : List Ed} (h : Own w base v l) (o : Obj) : Own (w.alloc o) base v l := World.ownsRow.alloc h o

theorem Below.growne {B : Nat} {a w w' : World} {base : Nat} {v : Value} {l : List Ed} (h : Below B a w) (ho : Own w base v l) (hb : B ≤ base) (hg : w.grownBy w' v.ownBlock) (hB : B ≤ w.heap.size) : Below B a w' :=
  h.grown hg hB (fun k hk => Nat.le_trans hb (World.ownsRow.lt ho k hk).1)

theorem out_succ (id : ByteArray) (l : List Ed) (k : Nat) (e : Ed) (he : l[k]? = some e) : outE id (l.take (k + 1)) = outE id (l.take k) ++ (if leaves id e then [e] else []) := by
  unfold outE
  rw [List.take_add_one, he, List.filter_append]
  simp only [Option.toList_some, List.filter_cons, List.filter_nil]

theorem out_len (id : ByteArray) (l : List Ed) : (outE id l).length ≤ l.length := List.length_filter_le _ _

set_option maxRecDepth 100000 in
set_option maxHeartbeats 2000000 in
theorem outgoing (a : Option Addr) (cap : Nat) (x : Value) (id : ByteArray) (l : List Ed) (w : World) (hl : l.length ≤ 524288) (hE : EL w a l) :
    Calls Try.prog 8 #[.agg #[.slice .none 0 0, .slice a l.length cap], .string id] w fun e w' => ∃ v, e = .returned v ∧ Own w' w.heap.size v (outE id l) ∧ Below w.heap.size w w' := by
  have HE := hide hE
  clear hE
  generalize hn : l.length = n at hl ⊢
  have HN := hide hn
  clear hn
  go_enter Try.func8, Try.ntmps8
  go_wp2_with fail
  go_loopg [5, 11] (n + 1) (fun g v5 v11 wr => ∃ (k : Nat), g = n + 1 - k ∧ k ≤ n ∧ v11 = .int .i64 k ∧ Own wr w.heap.size v5 (outE id (l.take k)) ∧ Below w.heap.size w wr)
  case atStart => exact ⟨0, rfl, Nat.zero_le _, rfl, World.ownsRow_nil _ _ _ _, (Below.refl _ w).alloc (Nat.le_refl _) _⟩
  case round =>
    obtain ⟨k, rfl, hk, rfl, hO, hB⟩ := hrel
    by_cases h1 : k < n
    · obtain ⟨e, he⟩ := at_some l k (by rw [HN.out]; exact h1)
      obtain ⟨b, off, rfl, hb, c0, c1, c2, c3⟩ := (unhide HE) k e he
      have d0 := (hB.cell (p := ⟨b, off + k * 4, .none⟩) hb).trans c0
      have d1 := (hB.cell (p := ⟨b, off + k * 4 + 1, .none⟩) hb).trans c1
      have d2 := (hB.cell (p := ⟨b, off + k * 4 + 2, .none⟩) hb).trans c2
      have d3 := (hB.cell (p := ⟨b, off + k * 4 + 3, .none⟩) hb).trans c3
      have hsc := out_succ id l k e he
      have hlen : (outE id (l.take k)).length ≤ k := Nat.le_trans (out_len _ _) (by simp; omega)
      have hbs : w.heap.size ≤ wr.heap.size := hB.size
      clear c0 c1 c2 c3 he
      cases hlv : leaves id e with
      | true =>
        rw [hlv, if_pos rfl] at hsc
        have hq : (e.src.toList == id.toList) = true := hlv
        have HX := hide (And.intro hO (And.intro hB hsc))
        clear hO hB hsc hlv
        go_wp2_with (at_builtin; refine wpList_app _ rfl _ _ rfl w.heap.size _ (outE id (l.take k)) [e] _ _ rfl rfl (((unhide HX).1.alloc _).alloc _) (EL.one' _ _ (by simp) e) (.inr ⟨_, _, rfl⟩) (fun h => by cases h) (by simp; omega) (by simp; omega) ?_; intro v' w1 ho1 hg1)
        go_wp2_with fail
        obtain ⟨x1, x2, x3⟩ := unhide HX
        go_roundg (n + 1 - (k + 1))
        case measure => omega
        case rel =>
          refine ⟨k + 1, rfl, by omega, by go_num, by rw [x3]; exact ho1, ?_⟩
          exact Below.growne ((x2.alloc hbs _).alloc (by simp; omega) _) ((x1.alloc _).alloc _) (Nat.le_refl _) hg1 (by simp; omega)
      | false =>
        rw [hlv, if_neg (by simp), List.append_nil] at hsc
        have hq : (e.src.toList == id.toList) = false := hlv
        have HX := hide (And.intro hO (And.intro hB hsc))
        clear hO hB hsc hlv
        go_wp2_with fail
        obtain ⟨x1, x2, x3⟩ := unhide HX
        go_roundg (n + 1 - (k + 1))
        case measure => omega
        case rel => exact ⟨k + 1, rfl, by omega, by go_num, by rw [x3]; exact x1.alloc _, x2.alloc hbs _⟩
    · obtain rfl : k = n := by omega
      have ht : l.take k = l := List.take_of_length_le (by rw [HN.out]; exact Nat.le_refl _)
      rw [ht] at hO
      have HX := hide (And.intro hO hB)
      clear hO hB ht
      go_wp2_with fail
      go_ret
      exact ⟨_, rfl, unhide HX⟩

end Go.Proofs.Qxb6614206a
