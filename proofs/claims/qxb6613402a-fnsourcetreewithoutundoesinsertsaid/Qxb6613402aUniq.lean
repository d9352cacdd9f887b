/-
  OWN WORK ON THIS SEAT. The greatest priority; what was built out of the same nodes is the same: no Go in sight.
-/
import Derived.Test.Qxb6613402aBuilt
namespace Go.Proofs.Qxb6613402a
open Go.Deep (BT)

/-- r is the node of P with the greatest priority (-1 where P is empty). -/
def AO (pr : Nat → Int) (P : Nat → Prop) (r : Int) : Prop :=
  (r = -1 ∧ ∀ j, ¬ P j) ∨ ∃ m : Nat, r = (m : Int) ∧ P m ∧ ∀ j, P j → pr j ≤ pr m

theorem ao_unique {pr : Nat → Int} {P : Nat → Prop} {r r' : Int} (hd : ∀ i j, P i → P j → pr i = pr j → i = j) (h : AO pr P r) (h' : AO pr P r') : r = r' := by
  rcases h with ⟨rfl, h⟩ | ⟨m, rfl, hm, h⟩
  · rcases h' with ⟨rfl, _⟩ | ⟨m', _, hm', _⟩
    · rfl
    · exact absurd hm' (h m')
  · rcases h' with ⟨_, h'⟩ | ⟨m', rfl, hm', h'⟩
    · exact absurd hm (h' m)
    · have := hd m m' hm hm' (by have := h m' hm'; have := h' m hm; omega)
      rw [this]

theorem ao_congr {pr : Nat → Int} {P Q : Nat → Prop} {r : Int} (h : AO pr P r) (e : ∀ j, P j ↔ Q j) : AO pr Q r := by
  rcases h with ⟨rfl, h⟩ | ⟨m, rfl, hm, h⟩
  · exact .inl ⟨rfl, fun j hj => h j ((e j).2 hj)⟩
  · exact .inr ⟨m, rfl, (e m).1 hm, fun j hj => h j ((e j).2 hj)⟩

theorem Built.root {s : Sh} {P : Nat → Prop} {M : Mem} {t : BT Unit} {r : Int} (h : Built s P M t r) : AO s.pr P r := by
  cases t with
  | nil => exact .inl ⟨h.in_, fun j hj => by have := (h.mem j).2 hj; simp [keys] at this⟩
  | node k o u l rr =>
    refine .inr ⟨k, h.in_.1, (h.mem k).1 (by simp [keys]), fun j hj => ?_⟩
    have hm := (h.mem j).2 hj
    simp only [keys, List.mem_append, List.mem_cons] at hm
    rcases hm with hm | rfl | hm
    · exact h.heap.1 j hm
    · exact Int.le_refl _
    · exact h.heap.2.1 j hm

theorem sorted_unique {fi : Nat → Int} : ∀ (xs ys : List Nat), Srt fi xs → Srt fi ys → (∀ j, j ∈ xs ↔ j ∈ ys) → xs = ys
  | [], [], _, _, _ => rfl
  | [], y :: ys, _, _, h => by have := (h y).2 (by simp); simp at this
  | x :: xs, [], _, _, h => by have := (h x).1 (by simp); simp at this
  | x :: xs, y :: ys, hx, hy, h => by
    have cx := List.pairwise_cons.1 hx
    have cy := List.pairwise_cons.1 hy
    have e : x = y := by
      have h1 := (h x).1 (by simp)
      have h2 := (h y).2 (by simp)
      simp only [List.mem_cons] at h1 h2
      rcases h1 with h1 | h1
      · exact h1
      · rcases h2 with h2 | h2
        · exact h2.symm
        · have := cx.1 y h2
          have := cy.1 x h1
          omega
    subst e
    have := sorted_unique xs ys cx.2 cy.2 (fun j => by
      have hj := h j
      simp only [List.mem_cons] at hj
      constructor
      · intro hm
        rcases hj.1 (.inr hm) with rfl | h'
        · have := cx.1 j hm; omega
        · exact h'
      · intro hm
        rcases hj.2 (.inr hm) with rfl | h'
        · have := cy.1 j hm; omega
        · exact h')
    rw [this]

theorem built_unique {s s' : Sh} {P : Nat → Prop} {M M' : Mem} {t t' : BT Unit} {r r' : Int} (h : Built s P M t r) (h' : Built s' P M' t' r') (ef : s'.fi = s.fi) (et : s'.tx = s.tx) (ep : s'.pr = s.pr)
    (hd : ∀ i j, P i → P j → s.pr i = s.pr j → i = j) : r = r' ∧ ∀ j, P j → M.L j = M'.L j ∧ M.R j = M'.R j ∧ M.T j = M'.T j := by
  have hs' := h'.srt
  have hh' := h'.heap
  have hi' := h'.in_
  rw [ef] at hs'
  rw [ep] at hh'
  rw [et] at hi'
  have hk : keys t = keys t' := sorted_unique _ _ h.srt hs' (fun j => (h.mem j).trans (h'.mem j).symm)
  have := unique t t' r r' h.in_ hi' h.heap hh' hk h.srt.nodup (fun i hi j hj e => hd i j ((h.mem i).1 hi) ((h.mem j).1 hj) e)
  exact ⟨this.1, fun j hj => this.2 j ((h.mem j).2 hj)⟩

/-- Behind 'without' the one is gone. -/
theorem Built.wo {s : Sh} {P : Nat → Prop} {M M' : Mem} {t : BT Unit} {r r' : Int} {m : Nat} (h : Built s P M t r) (ho : WoOut s.tx s.pr M t m M' r') :
    ∃ t', In s.tx M' t' r' ∧ Srt s.fi (keys t') ∧ Heap s.pr t' ∧ (∀ j, j ∈ keys t' ↔ P j ∧ j ≠ m) := by
  obtain ⟨t', A, B, h1, h2, h3, h4, h5⟩ := ho
  have hnd := h.srt.nodup
  have hsr := h.srt
  rw [h2] at hsr hnd
  have n1 := List.nodup_append.1 hnd
  refine ⟨t', h1, by rw [h3]; exact wo_srt hsr, h4, fun j => ?_⟩
  rw [h3, ← h.mem j, h2]
  simp only [List.mem_append, List.mem_cons]
  constructor
  · rintro (hm | hm)
    · exact ⟨.inl hm, fun e => n1.2.2 j hm m (by simp) e⟩
    · exact ⟨.inr (.inr hm), fun e => (List.nodup_cons.1 n1.2.1).1 (e ▸ hm)⟩
  · rintro ⟨hm | hm | hm, hne⟩
    · exact .inl hm
    · exact absurd hm hne
    · exact .inr hm

end Go.Proofs.Qxb6613402a
