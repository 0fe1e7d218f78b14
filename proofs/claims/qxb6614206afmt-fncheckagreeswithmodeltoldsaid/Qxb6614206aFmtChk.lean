import Derived.Test.Qxb6614206aFmtCyd
set_option linter.unusedVariables false
set_option linter.unusedSimpArgs false
namespace Go.Proofs.Qxb6614206aFmt
open Go.RowKit

def V1 (N : List Nd) : Prop := (∀ n ∈ N, vId n.id ∧ n.ty.size ≠ 0) ∧ (N.map Nd.id).Nodup
def V2 (N : List Nd) (E : List Ed) : Prop := (∀ e ∈ E, e.id.size ≠ 0 ∧ e.src ∈ N.map Nd.id ∧ e.dst ∈ N.map Nd.id) ∧ (E.map Ed.id).Nodup
def V4 (N : List Nd) (E : List Ed) : Prop := ∀ n ∈ N, polOK E n ∧ retOK n
/-- A well formed definition. -/
def Valid (N : List Nd) (E : List Ed) : Prop := V1 N ∧ V2 N E ∧ Acyc E ∧ V4 N E

theorem V1.nil : V1 [] := ⟨fun n h => by simp at h, by simp⟩

theorem V1.step {N : List Nd} {k : Nat} {n : Nd} (h : V1 (N.take k)) (hn : N[k]? = some n) (h1 : vId n.id) (h2 : n.ty.size ≠ 0) (h3 : n.id ∉ (N.take k).map Nd.id) : V1 (N.take (k + 1)) := by
  rw [List.take_add_one, hn]
  refine ⟨fun m hm => ?_, ?_⟩
  · rcases List.mem_append.1 hm with h4 | h4
    · exact h.1 m h4
    · simp at h4; subst h4; exact ⟨h1, h2⟩
  · rw [List.map_append]
    refine List.nodup_append.2 ⟨h.2, by simp, fun a ha b hb => ?_⟩
    simp at hb
    subst hb
    exact fun e => h3 (e ▸ ha)

theorem V1.bad {N : List Nd} {k : Nat} {n : Nd} (hn : N[k]? = some n) (h : ¬ vId n.id ∨ n.ty.size = 0 ∨ n.id ∈ (N.take k).map Nd.id) : ¬ V1 N := by
  intro hv
  have hm := List.mem_of_getElem? hn
  rcases h with h | h | h
  · exact h (hv.1 n hm).1
  · exact (hv.1 n hm).2 h
  · have h2 := hv.2
    have hlt : k < N.length := (List.getElem?_eq_some_iff.1 hn).1
    rw [← List.take_append_drop k N, List.map_append, List.nodup_append] at h2
    refine h2.2.2 _ h n.id ?_ rfl
    rw [List.drop_eq_getElem_cons hlt, (List.getElem?_eq_some_iff.1 hn).2]
    simp

theorem V2.nil (N : List Nd) : V2 N [] := ⟨fun n h => by simp at h, by simp⟩

theorem V2.step {N : List Nd} {E : List Ed} {k : Nat} {e : Ed} (h : V2 N (E.take k)) (hn : E[k]? = some e) (h1 : e.id.size ≠ 0) (h2 : e.src ∈ N.map Nd.id) (h3 : e.dst ∈ N.map Nd.id) (h4 : e.id ∉ (E.take k).map Ed.id) : V2 N (E.take (k + 1)) := by
  rw [List.take_add_one, hn]
  refine ⟨fun m hm => ?_, ?_⟩
  · rcases List.mem_append.1 hm with h5 | h5
    · exact h.1 m h5
    · simp at h5; subst h5; exact ⟨h1, h2, h3⟩
  · rw [List.map_append]
    refine List.nodup_append.2 ⟨h.2, by simp, fun a ha b hb => ?_⟩
    simp at hb
    subst hb
    exact fun e => h4 (e ▸ ha)

theorem V2.bad {N : List Nd} {E : List Ed} {k : Nat} {e : Ed} (hn : E[k]? = some e) (h : e.id.size = 0 ∨ e.src ∉ N.map Nd.id ∨ e.dst ∉ N.map Nd.id ∨ e.id ∈ (E.take k).map Ed.id) : ¬ V2 N E := by
  intro hv
  have hm := List.mem_of_getElem? hn
  rcases h with h | h | h | h
  · exact (hv.1 e hm).1 h
  · exact h (hv.1 e hm).2.1
  · exact h (hv.1 e hm).2.2
  · have h2 := hv.2
    have hlt : k < E.length := (List.getElem?_eq_some_iff.1 hn).1
    rw [← List.take_append_drop k E, List.map_append, List.nodup_append] at h2
    refine h2.2.2 _ h e.id ?_ rfl
    rw [List.drop_eq_getElem_cons hlt, (List.getElem?_eq_some_iff.1 hn).2]
    simp

/-- Looking among the first k + 1, the k-th's id being new. -/
theorem look_step {E : List Ed} {k : Nat} {e : Ed} (hn : E[k]? = some e) (h : e.id ∉ (E.take k).map Ed.id) (s : ByteArray) : look (E.take (k + 1)) s = if s = e.id then some e else look (E.take k) s := by
  unfold look
  rw [List.take_add_one, hn, List.find?_append]
  by_cases hs : s = e.id
  · subst hs
    have : (E.take k).find? (fun e' => decide (e'.id = e.id)) = .none := by
      rw [List.find?_eq_none]
      intro x hx hxe
      simp only [decide_eq_true_eq] at hxe
      exact h (List.mem_map.2 ⟨x, hx, hxe⟩)
    rw [this]
    simp
  · rw [if_neg hs]
    have : ¬ e.id = s := fun h => hs h.symm
    simp [this]

theorem look_some {E : List Ed} (s : ByteArray) : (look E s).isSome = true ↔ s ∈ E.map Ed.id := by
  unfold look
  rw [List.find?_isSome]
  simp only [List.mem_map, decide_eq_true_eq]

/-- nil where p holds, else some error. -/
def JudgedAny (p : Prop) (w w' : World) (e : Ending) : Prop := ∃ v, e = .returned v ∧ ((p ∧ v = .nilIface) ∨ (¬ p ∧ ∃ t a, v = .iface t (.pointer (some a)))) ∧ Below w.heap.size w w'

theorem JudgedAny.bad {p : Prop} {w wa w' : World} {v : Value} (hp : ¬ p) (hv : IsErr w' v) (h1 : Below w.heap.size w wa) (h2 : Below wa.heap.size wa w') : JudgedAny p w w' (.returned v) := by
  obtain ⟨a, s, rfl, _, _⟩ := hv
  exact ⟨_, rfl, .inr ⟨hp, _, _, rfl⟩, bthen h1 h2⟩

end Go.Proofs.Qxb6614206aFmt
