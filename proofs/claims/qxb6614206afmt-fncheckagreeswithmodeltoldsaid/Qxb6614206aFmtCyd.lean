import Derived.Test.Qxb6614206aFmtCyc
set_option linter.unusedVariables false
set_option linter.unusedSimpArgs false
namespace Go.Proofs.Qxb6614206aFmt
open Go.RowKit

/-- The walk's state. -/
def Cy (w2 wr : World) (E : List Ed) (ids : List ByteArray) (st : List (ByteArray × Nat)) (fin : List ByteArray) (v : Value) : Prop :=
  ∃ c, Cm w2 wr st fin v c ∧ Dfs E ids st fin ∧ c + pot E ids st fin ≤ ids.length * (E.length + 2)

theorem big {N E : Nat} (hN : N ≤ 65536) (hE : E ≤ 65536) : N * (E + 2) < maxLen := by
  have : N * (E + 2) ≤ 65536 * 65538 := Nat.mul_le_mul hN (by omega)
  unfold maxLen
  omega

/-- What the walk leaves: an edge, and whether there is a cycle. -/
def Found (E : List Ed) (e : Ending) : Prop := ∃ ed b, e = .returned (.tuple #[edv ed, .bool b]) ∧ (b = true ↔ ¬ Acyc E)

/-- The world behind 'outgoingByNode'. -/
structure Pre (w w2 : World) (na : Option Addr) (n nc : Nat) (E : List Ed) (f : ByteArray → Option Value) (z : ByteArray) : Prop where
  om : OM w2 (w.heap.size + 4) (w.heap.size + 3) E f
  bel : Below w.heap.size w w2
  size : w.heap.size + 2 ≤ w2.heap.size
  box : w2.cell? ⟨w.heap.size, 0, .none⟩ = some (.slice na n nc)
  res : w2.rowIs (w.heap.size + 1) 40 4 (fun q => if q = 3 then .bool false else .string z)

theorem pre_mk {w w2 : World} {na ea : Option Addr} {n nc m ec : Nat} {E : List Ed} {f : ByteArray → Option Value} {z : ByteArray} {W : World} (hW : W = (w.alloc (.cells #[.slice na n nc, .slice ea m ec] 30)).alloc (.cells #[.string z, .string z, .string z, .bool false] 40))
    (hO : OM w2 (W.heap.size + 2) (W.heap.size + 1) E f) (hB : Below W.heap.size W w2) : Pre w w2 na n nc E f z := by
  subst hW
  have hs : ((w.alloc (.cells #[.slice na n nc, .slice ea m ec] 30)).alloc (.cells #[.string z, .string z, .string z, .bool false] 40)).heap.size = w.heap.size + 2 := by simp
  rw [hs] at hO hB
  refine ⟨hO, (((Below.refl _ w).alloc (Nat.le_refl _) _).alloc (by simp) _).trans (hB.mono (by omega)), by rw [← hs]; exact hB.size, ?_, ?_⟩
  · rw [hB.cell (by simp)]
    rw [World.cell?_alloc_lt (h := by simp), World.cell?_alloc_at (hn := by simp)]
    rfl
  · refine World.rowIs.of_block ?_ (hB.block _ (by omega))
    have := World.rowIs_alloc (w.alloc (.cells #[.slice na n nc, .slice ea m ec] 30)) #[.string z, .string z, .string z, .bool false] 40 (fun q => if q = 3 then .bool false else .string z) (fun i hi => by
      have hi : i < 4 := hi
      rcases (show i = 0 ∨ i = 1 ∨ i = 2 ∨ i = 3 by omega) with rfl | rfl | rfl | rfl <;> rfl)
    simpa using this

set_option maxRecDepth 100000 in
set_option maxHeartbeats 16000000 in
theorem cycle (na ea : Option Addr) (nc ec : Nat) (N : List Nd) (E : List Ed) (w : World) (hn : N.length ≤ 65536) (hm : E.length ≤ 65536) (hP : PL w na N) (hE : EL w ea E) (hS : Sz E) (hz : ∀ n ∈ N, n.id.size ≤ maxLen)
    (hsrc : ∀ e ∈ E, e.src ∈ N.map Nd.id) (hdst : ∀ e ∈ E, e.dst ∈ N.map Nd.id) :
    Calls Tryf.prog 20 #[.agg #[.slice na N.length nc, .slice ea E.length ec]] w fun e w' => Found E e ∧ Below w.heap.size w w' := by
  have HP := hide hP
  have HE := hide hE
  have HS := hide hS
  have HZ := hide hz
  have HSD := hide (And.intro hsrc hdst)
  have hmk := fun W => mkMap Tryf.underlying70 N.length W
  clear hP hE hS hz hsrc hdst
  generalize hids : N.map Nd.id = ids at HSD
  have HI := hide hids
  clear hids
  have hil : ids.length = N.length := by rw [← unhide HI]; simp
  have HC0 := hide (big (N := ids.length) (E := E.length) (by omega) hm)
  generalize hnn : N.length = n at hn hmk hil ⊢
  have HN := hide hnn
  clear hnn
  go_enter Tryf.func20, Tryf.ntmps20
  go_wp2_with (go_at_call 27; refine (outgoingByNode na ea n nc ec E _ hm ((unhide HE).mono (((Below.refl _ w).alloc (Nat.le_refl _) _).alloc (by simp) _)) (unhide HS)).mono ?_; rintro e w2 ⟨f, rfl, hO, hB2⟩; have HO := hide (pre_mk rfl hO hB2); have b0 := (unhide HO).box; have hs2 := (unhide HO).size; have hs1 : w.heap.size < w2.heap.size := (by omega); clear hO hB2)
  go_loopg [7, 25] (n + 1) (fun g v7 v25 wr => ∃ (k : Nat) (fin : List ByteArray), g = n + 1 - k ∧ k ≤ n ∧ v25 = .int .i64 k ∧ Cy w2 wr E ids [] fin v7 ∧ ∀ i nd, i < k → N[i]? = some nd → nd.id ∈ fin)
  case atStart => exact ⟨0, [], rfl, Nat.zero_le _, rfl, ⟨0, Cm.start w2, ⟨trivial, trivial, by simp, by simp, trivial⟩, by simp [pot, todo]⟩, fun i nd hi => absurd hi (Nat.not_lt_zero _)⟩
  case round =>
    obtain ⟨k, fin, rfl, hk, rfl, ⟨c, hC, hD, hpt⟩, hfin⟩ := hrel
    clear hmk
    by_cases h1 : k < n
    · obtain ⟨nd, hnd⟩ := at_some N k (by rw [HN.out]; exact h1)
      obtain ⟨pa, ra, b, off, rfl, hb, hpol, hret, hcell⟩ := (unhide HP) k nd hnd
      have hBw := bthen (unhide HO).bel hC.bel
      have d0 : wr.cell? ⟨b, off + k * 7, .none⟩ = some (.string nd.id) := (hBw.cell hb).trans (hcell 0 (by omega))
      have d1 : wr.cell? ⟨b, off + k * 7 + 1, .none⟩ = some (.string nd.ty) := (hBw.cell hb).trans (hcell 1 (by omega))
      have d2 : wr.cell? ⟨b, off + k * 7 + 2, .none⟩ = some (.string ByteArray.empty) := (hBw.cell hb).trans (hcell 2 (by omega))
      have d3 : wr.cell? ⟨b, off + k * 7 + 3, .none⟩ = some (.map .none) := (hBw.cell hb).trans (hcell 3 (by omega))
      have d4 : wr.cell? ⟨b, off + k * 7 + 4, .none⟩ = some (.pointer pa) := (hBw.cell hb).trans (hcell 4 (by omega))
      have d5 : wr.cell? ⟨b, off + k * 7 + 5, .none⟩ = some (.pointer ra) := (hBw.cell hb).trans (hcell 5 (by omega))
      have d6 : wr.cell? ⟨b, off + k * 7 + 6, .none⟩ = some (.pointer .none) := (hBw.cell hb).trans (hcell 6 (by omega))
      have hzn : nd.id.size ≤ maxLen := (unhide HZ) nd (List.mem_of_getElem? hnd)
      have hlk : ∀ o, (Instr.lookup 70 (.map (some (w2.heap.size + 1))) (.string nd.id) false).run Tryf.prog (wr.alloc o) = .ok (.bool (isIn nd.id fin)) (wr.alloc o) := fun o => (hC.don.of_block (Below.heap_alloc _ _ _ hC.don.lt)).look nd.id hzn
      have hltc := hC.lt
      have HC := hide (And.intro hC (And.intro hfin (And.intro hnd hzn)))
      have HD := hide (And.intro hD hpt)
      obtain ⟨a7, cap7, rfl⟩ := hC.path.nil
      clear hC hfin hnd hzn hcell hpol hret hBw hD hpt
      by_cases h2 : nd.id ∈ fin
      · rw [isIn_true h2] at hlk
        have H2 := hide h2
        clear h2
        go_wp2_with fail
        go_roundg (n + 1 - (k + 1))
        case measure => omega
        case rel =>
          obtain ⟨x1, x2, x3, x4⟩ := unhide HC
          refine ⟨k + 1, fin, rfl, by omega, by go_num, ⟨c, x1.keep ((Below.refl _ wr).alloc (Nat.le_refl _) _), (unhide HD).1, (unhide HD).2⟩, fun i nd' hi hnd' => ?_⟩
          by_cases e : i = k
          · subst e
            obtain rfl : nd' = nd := Option.some.inj (hnd'.symm.trans x3)
            exact unhide H2
          · exact x2 i nd' (by omega) hnd'
      · rw [isIn_false h2] at hlk
        have H2 := hide h2
        clear h2
        have hsl : ∀ W, (Instr.slice 83 (.slice a7 0 cap7) .none (some (.int .i64 0)) .none).run Tryf.prog W = .ok (.slice a7 0 cap7) W := fun W => slice83 a7 0 cap7 0 (Nat.zero_le _) W
        obtain ⟨i0, hi0, hz0, hz1, hz2⟩ := info_parts Tryf.info85
        have hfar : some wr.heap.size ≠ (Value.slice a7 0 cap7).ownBlock := fun h => by
          have := (World.ownsRow.lt (unhide HC).1.path _ h.symm).2
          omega
        go_wp2_with fail
        go_region_held3 (fun w' => w'.cell? ⟨wr.heap.size, 0, .none⟩ = some (.string nd.id))
          (first
            | go_keep
            | (rw [hgrow.cell_far _ (by simp; omega) hfar]; assumption))
          ((refine step_append_lies _ (by rfl) _ _ _ (by rfl) (w2.heap.size + 2) 85 i0 _ 2 24 Tryf.underlying83 hi0 hz0 hz1 hz2 rfl (by omega) (.slice a7 0 cap7) 0 [] (by rfl) ((World.ownsRow.alloc (World.ownsRow.alloc (unhide HC).1.path _) _)).drew
              ⟨wr.heap.size + 1, 0, .none⟩ 1 1 [.string nd.id, .int .i64 0] (by rfl) (by rfl) (World.news_of_block (cs := #[.string nd.id, .int .i64 0]) (t := 85) (fr := (0, 0)) (heap_alloc2_new wr _ _)) (by simp [Value.oneCell'])
              (by omega) (by unfold maxLen; omega) (by omega) (by simp; omega) (wr.heap.size + 2) (by simp) ?_; intro g cap w3 hown3 hgrow hat hlt))
        have hroot : Dfs E ids [(nd.id, 0)] fin := (unhide HD).1.root (by rw [← unhide HI]; exact List.mem_map.2 ⟨nd, List.mem_of_getElem? (unhide HC).2.2.1, rfl⟩) (unhide H2)
        have hpr := pot_root hroot
        obtain ⟨w4, hup, hC4⟩ := Cm.push (unhide HC).1 (grown2 wr _ _) (by simpa using hown3) hgrow (unhide HC).2.2.2 (by have h3 := (unhide HD).2; have h4 := unhide HC0; omega)
        have c3 : w3.cell? ⟨wr.heap.size, 0, .none⟩ = some (.string nd.id) := by
          rw [hgrow.cell_far _ (by simp; omega) hfar]
          show ((wr.alloc _).alloc _).cell? _ = _
          rw [World.cell?_alloc_lt (h := by simp), World.cell?_alloc_at (hn := by simp)]
          rfl
        have HQ := hide (And.intro hC4 (And.intro hroot hpr))
        clear hC4 hroot hpr hown3 hgrow hat hlt hfar hsl hlk
        obtain ⟨w0, hw0⟩ : ∃ w0, w0 = wr := ⟨_, rfl⟩
        subst hw0
        go_wp2_with fail
        go_loopg [7] (pot E ids [(nd.id, 0)] fin) (fun g v7 wr => ∃ (st : List (ByteArray × Nat)) (fin' : List ByteArray), g = pot E ids st fin' ∧ Cy w2 wr E ids st fin' v7 ∧ (∀ y ∈ fin, y ∈ fin') ∧ (nd.id ∈ fin' ∨ nd.id ∈ st.map Prod.fst))
        case atStart => exact ⟨[(nd.id, 0)], fin, rfl, ⟨c + 1, (unhide HQ).1, (unhide HQ).2.1, by have h3 := (unhide HD).2; have h4 := (unhide HQ).2.2; omega⟩, fun y hy => hy, .inr (by simp)⟩
        case round =>
          obtain ⟨st, fin', rfl, ⟨c', hC, hD, hpt⟩, hsub, hrt⟩ := hrel
          clear hup c3
          have hzz : ∀ y ∈ ids, y.size ≤ maxLen := fun y hy => by
            rw [← unhide HI] at hy
            obtain ⟨nd', h3, rfl⟩ := List.mem_map.1 hy
            exact (unhide HZ) nd' h3
          have HZI := hide hzz
          clear hzz
          cases st with
          | nil =>
            obtain ⟨a8, cap8, rfl⟩ := hC.path.nil
            have HR := hide (And.intro hC (And.intro hD (And.intro hpt (And.intro hsub hrt))))
            clear hC hD hpt hsub hrt
            go_wp2_with fail
            go_roundg (n + 1 - (k + 1))
            case measure => omega
            case rel =>
              obtain ⟨x1, x2, x3, x4, x5⟩ := unhide HR
              refine ⟨k + 1, fin', rfl, by omega, by go_num, ⟨c', x1, x2, x3⟩, fun i nd' hi hnd' => ?_⟩
              by_cases e : i = k
              · subst e
                obtain rfl : nd' = nd := Option.some.inj (hnd'.symm.trans (unhide HC).2.2.1)
                rcases x5 with h | h
                · exact h
                · simp at h
              · exact x4 _ ((unhide HC).2.1 i nd' (by omega) hnd')
          | cons top rest =>
            obtain ⟨x, j⟩ := top
            obtain ⟨g5, cap5, hv5, hg5, hlt5, hcap5, c0, c1, fz0, fz1, hpop, hset⟩ := hC.path.top
            have hxs : x.size ≤ maxLen := (unhide HZI) x (hD.sub x (by simp))
            have hOM := (unhide HO).om.below hC.bel
            obtain ⟨a6, cap6, hrow6⟩ : ∃ a6 cap6, rowAt f x = .slice a6 (outE x E).length cap6 := by
              obtain ⟨_, ⟨h3, h4⟩ | ⟨g, cap, cur, hv, _⟩⟩ := hOM.at x
              · exact ⟨.none, 0, by rw [h3, h4]⟩
              · exact ⟨_, _, hv⟩
            have hl81 : (Instr.lookup 81 (.map (some (w.heap.size + 1 + 1 + 1))) (.string x) false).run Tryf.prog wr = .ok (.slice a6 (outE x E).length cap6) wr := by
              rw [← hrow6]
              exact hOM.map.look Tryf.underlying81 (zero28 wr) x hxs
            have hl81d : ∀ q, (Instr.lookup 81 (.map (some (w.heap.size + 1 + 1 + 1))) (.string x) false).run Tryf.prog (wr.drewN q) = .ok (.slice a6 (outE x E).length cap6) (wr.drewN q) := fun q => by
              rw [← hrow6]
              exact (hOM.map.of_block (w' := wr.drewN q) rfl).look Tryf.underlying81 (zero28 _) x hxs
            have hjl := hD.tk.1
            have hrl : rest.length ≤ 65536 := by
              have := hD.room
              simp only [List.length_cons] at this
              omega
            have hol := out_le E x
            have HR := hide (And.intro hC (And.intro hD (And.intro hpt (And.intro hsub hrt))))
            have HM := hide (And.intro hOM (And.intro hrow6 hxs))
            clear hC hD hpt hsub hrt hOM hrow6 hxs hpop hset
            have HRL : Hid (∃ r, r = rest.length) := hide ⟨_, rfl⟩
            generalize hrr : rest.length = rL at c0 c1 fz0 fz1 hrl hcap5
            rw [hrr] at hv5
            subst hv5
            have HRR := hide hrr
            clear hrr
            generalize hoo : (outE x E).length = oL at hl81 hl81d hjl hol
            have HOL := hide hoo
            clear hoo
            by_cases h5 : j = oL
            · subst h5
              go_wp2_with fail
              go_quiet (fail)
              go_wp2_with fail
              go_name_world Wq hWq
              have hBq : Below wr.heap.size wr Wq := by rw [← hWq]; exact ⟨rfl, rfl, rfl, Nat.le_refl _, fun _ _ => rfl⟩
              have c0q : Wq.cell? ⟨g5, rL * 2, .none⟩ = some (.string x) := (hBq.cell hlt5).trans c0
              obtain ⟨p1, p2, p3, p4, v0, v1, s0, s1, m1, m2, m3, m4, y1, y2, y3, y4, hC5⟩ := Cm.pop (j := j) (st := rest) (g := g5) (cap := cap5) (by rw [unhide HRR]; exact ((unhide HR).1.keep hBq.drew)) (unhide HM).2.2 (by have h3 := (unhide HR).2.2.1; have h4 := unhide HC0; omega) (by have h3 := (unhide HR).2.1.nod; simp only [List.map_cons, List.cons_append, List.nodup_cons, List.mem_append, not_or] at h3; exact h3.1.1)
              rw [unhide HRR] at y1 y2 y3 y4 hC5
              have hsl := slice83 (some ⟨g5, 0, .none⟩) (rL + 1) cap5 rL (by omega)
              have HC5 := hide hC5
              clear hC5
              go_region_held3 (fun w' => w'.cell? ⟨g5, rL * 2, .none⟩ = some (.string x)) (first | assumption | go_keep | exact y1 | exact y2 | exact y3 | exact y4) (fail)
              go_wp2_with fail
              go_roundg (pot E ids rest (x :: fin'))
              case measure => exact pot_pop
              case rel =>
                obtain ⟨x1, x2, x3, x4, x5⟩ := unhide HR
                have hp := pot_pop (E := E) (ids := ids) (fin := fin') (x := x) (j := j) (rest := rest)
                refine ⟨rest, x :: fin', rfl, ⟨c' + 1, unhide HC5, x2.pop (by rw [unhide HOL]), by omega⟩, fun y hy => List.mem_cons_of_mem _ (x4 y hy), ?_⟩
                rcases x5 with h | h
                · exact .inl (List.mem_cons_of_mem _ h)
                · simp only [List.map_cons, List.mem_cons] at h
                  rcases h with h | h
                  · exact .inl (by rw [h]; exact List.mem_cons_self)
                  · exact .inr h
            · obtain ⟨e, he⟩ := at_some (outE x E) j (by rw [HOL.out]; omega)
              have hej : j < oL := by omega
              have heE : e ∈ E := (List.mem_filter.1 (List.mem_of_getElem? he)).1
              have hds : e.dst.size ≤ maxLen := ((unhide HS) e heE).2.2
              obtain ⟨g6, rfl⟩ : ∃ g6, a6 = some ⟨g6, 0, .none⟩ := by
                obtain ⟨_, ⟨h3, h4⟩ | ⟨g, cap, cur, hv, _⟩⟩ := (unhide HM).1.at x
                · exfalso
                  have := unhide HOL
                  omega
                · rw [(unhide HM).2.1] at hv
                  simp only [Value.slice.injEq] at hv
                  exact ⟨g, hv.1⟩
              have hcells : ∀ q u, q < 4 → (edc e)[q]? = some u → wr.cell? ⟨g6, j * 4 + q, .none⟩ = some u := fun q u hq hu => by
                have h3 := (unhide HM).1.at x
                rw [(unhide HM).2.1] at h3
                rw [World.ownsRow.cellAt h3 (j * 4 + q) (by have := unhide HOL; omega)]
                exact edc_at _ j q e u he hq hu
              have hg6 : g6 < wr.heap.size := by
                have h3 := (unhide HM).1.at x
                exact (h3.lt g6 (by rw [(unhide HM).2.1]; rfl)).2
              have k0 := hcells 0 _ (by omega) rfl
              have k1 := hcells 1 _ (by omega) rfl
              have k2 := hcells 2 _ (by omega) rfl
              have k3 := hcells 3 _ (by omega) rfl
              rw [Nat.add_zero] at k0
              have HEE := hide (And.intro he (And.intro heE hds))
              clear hcells he heE hds
              have hbq : ((j : Int) == (oL : Int)) = false := by rw [beq_eq_false_iff_ne]; omega
              go_wp2_with fail
              go_quiet (fail)
              go_wp2_with fail
              go_name_world Wq hWq
              have hBq : Below wr.heap.size wr Wq := by rw [← hWq]; exact ⟨rfl, rfl, rfl, Nat.le_refl _, fun _ _ => rfl⟩
              have hsz : Wq.heap.size = wr.heap.size := by rw [← hWq]; rfl
              have c0q : Wq.cell? ⟨g5, rL * 2, .none⟩ = some (.string x) := (hBq.cell hlt5).trans c0
              have c1q : Wq.cell? ⟨g5, rL * 2 + 1, .none⟩ = some (.int .i64 (j : Int)) := (hBq.cell hlt5).trans c1
              have k0q : Wq.cell? ⟨g6, j * 4, .none⟩ = some (.string e.id) := (hBq.cell hg6).trans k0
              have k1q : Wq.cell? ⟨g6, j * 4 + 1, .none⟩ = some (.string e.src) := (hBq.cell hg6).trans k1
              have k2q : Wq.cell? ⟨g6, j * 4 + 2, .none⟩ = some (.string e.dst) := (hBq.cell hg6).trans k2
              have k3q : Wq.cell? ⟨g6, j * 4 + 3, .none⟩ = some (.bool e.err) := (hBq.cell hg6).trans k3
              have hl0 : ∀ W : World, Below wr.heap.size wr W → (Instr.lookup 81 (.map (some (w.heap.size + 1 + 1 + 1))) (.string x) false).run Tryf.prog W = .ok (.slice (some ⟨g6, 0, .none⟩) oL cap6) W := fun W hW => by
                rw [← unhide HOL, ← (unhide HM).2.1]
                exact ((unhide HM).1.map.below hW).look Tryf.underlying81 (zero28 _) x (unhide HM).2.2
              have hl1 := hl0 Wq hBq
              have hl2 := hl0 Wq.drew hBq.drew
              have hl3 := fun o => hl0 (Wq.alloc o) (hBq.alloc (by omega) o)
              have hl4 := fun o => hl0 (Wq.alloc o).drew (hBq.alloc (by omega) o).drew
              have hl5 := fun o => hl0 (Wq.drew.alloc o) (hBq.drew.alloc (by show wr.heap.size ≤ Wq.heap.size; omega) o)
              have hg5q : g5 < Wq.heap.size := by omega
              have hg6q : g6 < Wq.heap.size := by omega
              have hjI : (j : Int) < (oL : Int) := by omega
              have HLK := hide hl0
              clear hl0 hl81 hl81d c0 c1 k0 k1 k2 k3
              go_region_held3 (fun w' => w'.cell? ⟨g5, rL * 2, .none⟩ = some (.string x) ∧ w'.cell? ⟨g5, rL * 2 + 1, .none⟩ = some (.int .i64 (j : Int)) ∧ w'.cell? ⟨g6, j * 4, .none⟩ = some (.string e.id) ∧ w'.cell? ⟨g6, j * 4 + 1, .none⟩ = some (.string e.src) ∧ w'.cell? ⟨g6, j * 4 + 2, .none⟩ = some (.string e.dst) ∧ w'.cell? ⟨g6, j * 4 + 3, .none⟩ = some (.bool e.err)) (go_keep) (fail)
              all_goals
                have hB6 : ∀ o, Below wr.heap.size wr (Wq.alloc o).drew := fun o => (hBq.alloc (by omega) o).drew
                have hCn : ∀ o, Cm w2 (((Wq.setCell ⟨g5, rL * 2 + 1, .none⟩ (.int .i64 ((j : Int) + 1))).alloc o).drew) ((x, j + 1) :: rest) fin' (.slice (some ⟨g5, 0, .none⟩) (rL + 1) cap5) c' := fun o => by
                  have h3 := (unhide HR).1.keep hBq
                  rw [← unhide HRR] at h3 ⊢
                  exact h3.next.keep ((Below.refl _ _).alloc (Nat.le_refl _) o).drew
                have fzq : ∀ o, ((Wq.alloc o).drew).frozen? ⟨g5, rL * 2 + 1, .none⟩ = false := fun o => ((hB6 o).frozen hlt5).trans fz1
                have hlo : ∀ o, (Instr.lookup 70 (.map (some w2.heap.size)) (.string e.dst) false).run Tryf.prog (((Wq.setCell ⟨g5, rL * 2 + 1, .none⟩ (.int .i64 ((j : Int) + 1))).alloc o).drew) = .ok (.bool (isIn e.dst (x :: rest.map Prod.fst))) (((Wq.setCell ⟨g5, rL * 2 + 1, .none⟩ (.int .i64 ((j : Int) + 1))).alloc o).drew) := fun o => (hCn o).onp.look e.dst (unhide HEE).2.2
                have hld : ∀ o, (Instr.lookup 70 (.map (some (w2.heap.size + 1))) (.string e.dst) false).run Tryf.prog (((Wq.setCell ⟨g5, rL * 2 + 1, .none⟩ (.int .i64 ((j : Int) + 1))).alloc o).drew) = .ok (.bool (isIn e.dst fin')) (((Wq.setCell ⟨g5, rL * 2 + 1, .none⟩ (.int .i64 ((j : Int) + 1))).alloc o).drew) := fun o => (hCn o).don.look e.dst (unhide HEE).2.2
                have hne1 : ¬ Wq.heap.size = g5 := by omega
                have hne2 : ¬ g5 = Wq.heap.size := by omega
                have HCN := hide hCn
                clear hCn hB6 hl1 hl2 hl3 hl4 hl5
                by_cases h6 : e.dst ∈ x :: rest.map Prod.fst
                · rw [isIn_true h6] at hlo
                  have H6 := hide h6
                  have hres : ∀ o, World.rowIs (((Wq.setCell ⟨g5, rL * 2 + 1, .none⟩ (.int .i64 ((j : Int) + 1))).alloc o).drew) (w.heap.size + 1) 40 4 (fun q => if q = 3 then .bool false else .string ⟨#[]⟩) := fun o => (unhide HO).res.of_block ((unhide HCN o).bel.block _ (by omega))
                  clear h6 hld
                  go_upto_region 19 with fail
                  go_name_world W7 hW7
                  have hres7 : W7.rowIs (w.heap.size + 1) 40 4 (fun q => if q = 3 then .bool false else .string ⟨#[]⟩) := by rw [← hW7]; exact hres _
                  have hB7 : Below w2.heap.size w2 W7 := by rw [← hW7]; exact (unhide HCN _).bel
                  have s0 : W7.cell? ⟨wr.heap.size, 0, .none⟩ = some (.string e.id) := by rw [← hW7, World.cell?_drew, World.cell?_alloc_at (hn := by simp [hsz])]; rfl
                  have s1 : W7.cell? ⟨wr.heap.size, 1, .none⟩ = some (.string e.src) := by rw [← hW7, World.cell?_drew, World.cell?_alloc_at (hn := by simp [hsz])]; rfl
                  have s2 : W7.cell? ⟨wr.heap.size, 2, .none⟩ = some (.string e.dst) := by rw [← hW7, World.cell?_drew, World.cell?_alloc_at (hn := by simp [hsz])]; rfl
                  have s3 : W7.cell? ⟨wr.heap.size, 3, .none⟩ = some (.bool e.err) := by rw [← hW7, World.cell?_drew, World.cell?_alloc_at (hn := by simp [hsz])]; rfl
                  have r0 := hres7.cell (i := 0) (by omega)
                  have r1 := hres7.cell (i := 1) (by omega)
                  have r2 := hres7.cell (i := 2) (by omega)
                  have r3 := hres7.cell (i := 3) (by omega)
                  have q0 := hres7.frozen 0
                  have q1 := hres7.frozen 1
                  have q2 := hres7.frozen 2
                  have q3 := hres7.frozen 3
                  have HB7 := hide hB7
                  clear hres hW7 hlo fzq hres7 hB7 HCN
                  go_wp2_with fail
                  try simp only [Exit.inBlock, Exit.then]
                  refine bodyPost_ret (v := .tuple #[.agg #[.string e.id, .string e.src, .string e.dst, .bool e.err], .bool true]) ?_ rfl ⟨⟨e, true, rfl, ⟨fun _ => ?_, fun _ => rfl⟩⟩, ?_⟩
                  · rw [results_cell_tmp rfl]
                    go_simp
                  · exact (unhide HR).2.1.found (unhide HEE).1 (unhide H6)
                  · exact ((((bthen (unhide HO).bel (unhide HB7)).setCell (by simp) _).setCell (by simp) _).setCell (by simp) _).setCell (by simp) _
                · rw [isIn_false h6] at hlo
                  have H6 := hide h6
                  clear h6
                  by_cases h7 : e.dst ∈ fin'
                  · rw [isIn_true h7] at hld
                    have H7 := hide h7
                    clear h7
                    go_wp2_with fail
                    go_roundg (pot E ids ((x, j + 1) :: rest) fin')
                    case measure => exact pot_skip (unhide HEE).1
                    case rel =>
                      obtain ⟨x1, x2, x3, x4, x5⟩ := unhide HR
                      have hp := pot_skip (E := E) (ids := ids) (fin := fin') (rest := rest) (unhide HEE).1
                      refine ⟨(x, j + 1) :: rest, fin', rfl, ⟨c', unhide HCN _, x2.skip (unhide HEE).1 (unhide H7), by omega⟩, x4, x5⟩
                  · rw [isIn_false h7] at hld
                    have H7 := hide h7
                    clear h7
                    go_upto_region 21 with fail
                    go_name_world W7 hW7
                    have hC7 : Cm w2 W7 ((x, j + 1) :: rest) fin' (.slice (some ⟨g5, 0, .none⟩) (rL + 1) cap5) c' := by rw [← hW7]; exact unhide HCN _
                    have s2 : W7.cell? ⟨wr.heap.size, 2, .none⟩ = some (.string e.dst) := by rw [← hW7, World.cell?_drew, World.cell?_alloc_at (hn := by simp [hsz])]; rfl
                    have hs7 : wr.heap.size < W7.heap.size := by rw [← hW7]; show _ < ((Wq.setCell _ _).alloc _).heap.size; simp; omega
                    have hfar : some wr.heap.size ≠ (Value.slice (some ⟨g5, 0, .none⟩) (rL + 1) cap5).ownBlock := fun h => by
                      simp only [Value.ownBlock, Option.some.injEq] at h
                      omega
                    have HC7 := hide hC7
                    clear hW7 hlo hld fzq hC7 HCN
                    have hlen : ((x, j + 1) :: rest).length ≤ 65537 := by simp only [List.length_cons]; have := unhide HRR; omega
                    have hw27 : w2.heap.size + 2 ≤ W7.heap.size := by have := (unhide HC7).lt; omega
                    go_wp2_with ((at_builtin; refine wpList_append_lies _ (by rfl) _ _ _ (by rfl) (w2.heap.size + 2) 85 i0 _ 2 24 Tryf.underlying83 hi0 hz0 hz1 hz2 rfl (by omega) (.slice (some ⟨g5, 0, .none⟩) (rL + 1) cap5) ((x, j + 1) :: rest).length (((x, j + 1) :: rest).reverse.flatMap stc) (by rfl) (World.ownsRow.alloc (unhide HC7).path _) ⟨W7.heap.size, 0, .none⟩ 1 1 [.string e.dst, .int .i64 0] (by rfl) (by rfl) (World.news_of_block (cs := #[.string e.dst, .int .i64 0]) (t := 85) (fr := (0, 0)) (heap_alloc_new W7 _)) (by simp [Value.oneCell']) (by omega) (by unfold maxLen; omega) (by omega) (by simp; omega) (W7.heap.size + 1) (by simp) ?_; intro g8 cap8 w8 hown8 hgrow8 hat8 hlt8; obtain ⟨w9, hup9, hC9⟩ := Cm.push (unhide HC7) (World.grownBy_alloc W7 _ .none) hown8 hgrow8 (unhide HEE).2.2 (by have h3 := (unhide HR).2.2.1; have h4 := unhide HC0; omega); have s2' : w8.cell? ⟨wr.heap.size, 2, .none⟩ = some (.string e.dst) := (by rw [hgrow8.cell_far _ (by simp; omega) hfar, World.cell?_alloc_lt (h := hs7)]; exact s2)))
                    go_roundg (pot E ids ((e.dst, 0) :: (x, j + 1) :: rest) fin')
                    case measure => exact pot_push (unhide HEE).1 ((unhide HR).2.1.push (unhide HEE).1 (unhide H7) (by simpa using unhide H6) ((unhide HSD).2 e (unhide HEE).2.1))
                    case rel =>
                      obtain ⟨x1, x2, x3, x4, x5⟩ := unhide HR
                      have hD9 := x2.push (unhide HEE).1 (unhide H7) (by simpa using unhide H6) ((unhide HSD).2 e (unhide HEE).2.1)
                      have hp := pot_push (unhide HEE).1 hD9
                      refine ⟨(e.dst, 0) :: (x, j + 1) :: rest, fin', rfl, ⟨c' + 1, hC9, hD9, by omega⟩, x4, ?_⟩
                      rcases x5 with h | h
                      · exact .inl h
                      · exact .inr (by simp only [List.map_cons, List.mem_cons] at h ⊢; exact .inr h)
    · obtain rfl : k = n := by omega
      have HD := hide (And.intro hD hpt)
      have HC := hide (And.intro hC hfin)
      have r0 := ((unhide HO).res.of_block (hC.bel.block _ (by omega))).cell (i := 0) (by omega)
      have r1 := ((unhide HO).res.of_block (hC.bel.block _ (by omega))).cell (i := 1) (by omega)
      have r2 := ((unhide HO).res.of_block (hC.bel.block _ (by omega))).cell (i := 2) (by omega)
      have r3 := ((unhide HO).res.of_block (hC.bel.block _ (by omega))).cell (i := 3) (by omega)
      have f0 := ((unhide HO).res.of_block (hC.bel.block _ (by omega))).frozen 0
      have f1 := ((unhide HO).res.of_block (hC.bel.block _ (by omega))).frozen 1
      have f2 := ((unhide HO).res.of_block (hC.bel.block _ (by omega))).frozen 2
      have f3 := ((unhide HO).res.of_block (hC.bel.block _ (by omega))).frozen 3
      clear hC hfin hD hpt
      go_wp2_with fail
      try simp only [Exit.inBlock, Exit.then]
      refine bodyPost_ret (v := .tuple #[.agg #[.string ⟨#[]⟩, .string ⟨#[]⟩, .string ⟨#[]⟩, .bool false], .bool false]) ?_ rfl ⟨⟨⟨⟨#[]⟩, ⟨#[]⟩, ⟨#[]⟩, false⟩, false, rfl, ⟨fun h => (Bool.noConfusion h), fun h => absurd ?_ h⟩⟩, ?_⟩
      · rw [results_cell_tmp rfl]
        go_simp
      · refine acyc_of_ordered (unhide HD).1.ord (fun e he => ?_)
        have h3 := (unhide HSD).1 e he
        rw [← unhide HI] at h3
        obtain ⟨nd, hnd, hid⟩ := List.mem_map.1 h3
        obtain ⟨i, hi⟩ := List.getElem?_of_mem hnd
        rw [← hid]
        exact (unhide HC).2 i nd (by rw [← HN.out]; exact (List.getElem?_eq_some_iff.1 hi).1) hi
      · exact ((((bthen (unhide HO).bel (unhide HC).1.bel).setCell (by simp) _).setCell (by simp) _).setCell (by simp) _).setCell (by simp) _

end Go.Proofs.Qxb6614206aFmt
