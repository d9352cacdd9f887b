/-
  OWN WORK ON THIS SEAT. What a row of inserts has built: no Go in sight but the tree's shape.
-/
import Derived.Test.Qxb6613402aW9
namespace Go.Proofs.Qxb6613402a
open Go.Deep (BT)

/-- A treap that holds just the nodes of P; the others are alone. -/
structure Built (s : Sh) (P : Nat → Prop) (M : Mem) (t : BT Unit) (r : Int) : Prop where
  in_ : In s.tx M t r
  srt : Srt s.fi (keys t)
  heap : Heap s.pr t
  mem : ∀ j, j ∈ keys t ↔ P j
  bnd : ∀ j, P j → j < s.n
  alone : ∀ j, j < s.n → ¬ P j → Alone s.tx M j

theorem built_none (s : Sh) : Built s (fun _ => False) ⟨fun _ => -1, fun _ => -1, s.tx⟩ .nil (-1) :=
  ⟨rfl, List.Pairwise.nil, trivial, by simp [keys], fun _ h => h.elim, fun _ _ _ => ⟨rfl, rfl, rfl⟩⟩

theorem Built.lt {s : Sh} {P : Nat → Prop} {M : Mem} {t : BT Unit} {r : Int} (h : Built s P M t r) : ∀ j ∈ keys t, j < s.n := fun j hj => h.bnd j ((h.mem j).1 hj)

theorem Built.congr {s : Sh} {P Q : Nat → Prop} {M : Mem} {t : BT Unit} {r : Int} (h : Built s P M t r) (e : ∀ j, P j ↔ Q j) : Built s Q M t r :=
  ⟨h.in_, h.srt, h.heap, fun j => (h.mem j).trans (e j), fun j hj => h.bnd j ((e j).2 hj), fun j hj hq => h.alone j hj (fun hp => hq ((e j).1 hp))⟩

theorem Built.ins {s : Sh} {P : Nat → Prop} {M M' : Mem} {t : BT Unit} {r r' : Int} {m : Nat} (h : Built s P M t r) (hm : m < s.n) (ho : InsOut s.tx s.fi s.pr M t m M' r') : ∃ t', Built s (fun j => P j ∨ j = m) M' t' r' := by
  obtain ⟨t', A, B, h1, h2, h3, h4, h5, h6, h7⟩ := ho
  have hmem : ∀ j, j ∈ keys t' ↔ j ∈ keys t ∨ j = m := by
    intro j
    rw [h2, h3]
    simp only [List.mem_append, List.mem_cons]
    constructor
    · rintro (h | h | h)
      · exact .inl (.inl h)
      · exact .inr h
      · exact .inl (.inr h)
    · rintro ((h | h) | h)
      · exact .inl h
      · exact .inr (.inr h)
      · exact .inr (.inl h)
  refine ⟨t', h1, ?_, h6, fun j => ?_, fun j hj => ?_, fun j hj hq => ?_⟩
  · rw [h3]; exact ins_srt (by rw [← h2]; exact h.srt) h4 h5
  · rw [hmem, h.mem]
  · rcases hj with hj | rfl
    · exact h.bnd j hj
    · exact hm
  · have hj' : j ∉ m :: keys t := by
      simp only [List.mem_cons, not_or]
      exact ⟨fun e => hq (.inr e), fun hm => hq (.inl ((h.mem j).1 hm))⟩
    obtain ⟨a1, a2, a3⟩ := h.alone j hj (fun hp => hq (.inl hp))
    obtain ⟨b1, b2, b3⟩ := h7 j hj'
    exact ⟨b1.trans a1, b2.trans a2, b3.trans a3⟩

/-- What insert asks. -/
theorem Built.ready {s : Sh} {P : Nat → Prop} {M : Mem} {t : BT Unit} {r : Int} {m : Nat} (h : Built s P M t r) (hm : m < s.n) (hp : ¬ P m) (hd : ∀ i j, i < s.n → j < s.n → s.fi i = s.fi j → i = j) : ∀ j ∈ keys t, s.fi j ≠ s.fi m := by
  intro j hj e
  have := hd j m (h.lt j hj) hm e
  exact hp ((h.mem m).1 (this ▸ hj))

end Go.Proofs.Qxb6613402a
