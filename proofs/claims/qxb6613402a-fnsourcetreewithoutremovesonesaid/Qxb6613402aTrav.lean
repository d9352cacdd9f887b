/-
  OWN WORK ON THIS SEAT. The walk over a tree with a stack (zzCheckTree), no Go in sight.
-/
import Derived.Test.Qxb6613402aTree2
namespace Go.Proofs.Qxb6613402a
open Go.Deep (BT)

/-- What the stack still has to give, its top first: each node, then its right subtree. -/
def flat : List (Nat × BT Unit) → List Nat
  | [] => []
  | (k, r) :: sp => k :: (keys r ++ flat sp)

/-- The state: 'done' has been met; tc hangs at cur; sp is the stack, its top first; V says which were visited; prev is the last first write met. -/
structure Trav (x fi : Nat → Int) (M : Mem) (t0 : BT Unit) (done : List Nat) (tc : BT Unit) (cur : Int) (sp : List (Nat × BT Unit)) (V : Nat → Bool) (prev : Int) : Prop where
  at_ : In x M tc cur
  stk : ∀ p ∈ sp, In x M p.2 (M.R p.1)
  eq : keys t0 = done ++ (keys tc ++ flat sp)
  vis : ∀ j, V j = true ↔ j ∈ done ∨ j ∈ sp.map (·.1)
  last : ∀ d j, done = d ++ [j] → prev = fi j

theorem mem_flat {sp : List (Nat × BT Unit)} {j : Nat} (h : j ∈ sp.map (·.1)) : j ∈ flat sp := by
  induction sp with
  | nil => simp at h
  | cons p sp ih =>
    obtain ⟨k, r⟩ := p
    simp only [List.map_cons, List.mem_cons] at h
    rcases h with h | h
    · simp [flat, h]
    · simp [flat, ih h]

theorem len_flat (sp : List (Nat × BT Unit)) : sp.length ≤ (flat sp).length := by
  induction sp with
  | nil => simp [flat]
  | cons p sp ih => obtain ⟨k, r⟩ := p; simp [flat]; omega

theorem nodup_le : ∀ (n : Nat) (xs : List Nat), xs.Nodup → (∀ j ∈ xs, j < n) → xs.length ≤ n
  | 0, xs, _, h => by
    cases xs with
    | nil => simp
    | cons a xs => have := h a (by simp); omega
  | n + 1, xs, hn, h => by
    by_cases hm : n ∈ xs
    · have h1 := nodup_le n (xs.erase n) (hn.erase n) (fun j hj => by
        have := (hn.mem_erase_iff).1 hj
        have := h j this.2
        omega)
      rw [List.length_erase_of_mem hm] at h1
      omega
    · have := nodup_le n xs hn (fun j hj => by
        have h2 := h j hj
        have : j ≠ n := fun e => hm (e ▸ hj)
        omega)
      omega

theorem trav_start {x fi : Nat → Int} {M : Mem} {t0 : BT Unit} {r : Int} (h : In x M t0 r) : Trav x fi M t0 [] t0 r [] (fun _ => false) 0 :=
  ⟨h, by simp, by simp [flat], by simp, fun d j e => by simp at e⟩

section
variable {x fi : Nat → Int} {M : Mem} {t0 : BT Unit} {done : List Nat} {k o : Nat} {u : Unit} {l r : BT Unit} {cur : Int} {sp : List (Nat × BT Unit)} {V : Nat → Bool} {prev : Int}

/-- A step down to the left. -/
theorem trav_down (h : Trav x fi M t0 done (.node k o u l r) cur sp V prev) : Trav x fi M t0 done l (M.L k) ((k, r) :: sp) (fun j => if j = k then true else V j) prev := by
  obtain ⟨h1, h2, h3, h4, h5⟩ := h
  obtain ⟨_, hl, hr, _⟩ := h1
  refine ⟨hl, ?_, ?_, ?_, h5⟩
  · intro p hp
    simp only [List.mem_cons] at hp
    rcases hp with rfl | hp
    · exact hr
    · exact h2 p hp
  · rw [h3]; simp [keys, flat]
  · intro j
    by_cases e : j = k
    · subst e; simp
    · simp [e, h4 j]

/-- Ahead of it the node has not been visited, and it is one of the tree's. -/
theorem trav_fresh (h : Trav x fi M t0 done (.node k o u l r) cur sp V prev) (hnd : (keys t0).Nodup) : V k = false ∧ k ∈ keys t0 := by
  obtain ⟨h1, h2, h3, h4, h5⟩ := h
  rw [h3] at hnd ⊢
  refine ⟨?_, by simp [keys]⟩
  cases hv : V k with
  | false => rfl
  | true =>
    exfalso
    have n1 := List.nodup_append.1 hnd
    have n2 := List.nodup_append.1 n1.2.1
    rcases (h4 k).1 hv with hm | hm
    · exact n1.2.2 k hm k (by simp [keys]) rfl
    · exact n2.2.2 k (by simp [keys]) k (mem_flat hm) rfl

theorem trav_len {tc : BT Unit} {n : Nat} (h : Trav x fi M t0 done tc cur sp V prev) (hnd : (keys t0).Nodup) (hb : ∀ j ∈ keys t0, j < n) : done.length + (keys tc).length + sp.length ≤ n := by
  have h1 := nodup_le n _ hnd hb
  rw [h.eq] at h1
  have h2 := len_flat sp
  simp only [List.length_append] at h1
  omega

/-- The top is taken off. -/
theorem trav_pop (h : Trav x fi M t0 done .nil cur ((k, r) :: sp) V prev) : Trav x fi M t0 (done ++ [k]) r (M.R k) sp V (fi k) := by
  obtain ⟨h1, h2, h3, h4, h5⟩ := h
  refine ⟨h2 (k, r) (by simp), fun p hp => h2 p (by simp [hp]), ?_, ?_, ?_⟩
  · rw [h3]; simp [keys, flat]
  · intro j
    rw [h4 j]
    simp only [List.map_cons, List.mem_cons, List.mem_append, List.not_mem_nil, or_false]
    constructor
    · rintro (h | h | h)
      · exact .inl (.inl h)
      · exact .inl (.inr h)
      · exact .inr h
    · rintro ((h | h) | h)
      · exact .inl h
      · exact .inr (.inl h)
      · exact .inr (.inr h)
  · intro d j e
    have := List.append_inj' e rfl
    simp at this
    rw [this.2]

theorem trav_top (h : Trav x fi M t0 done .nil cur ((k, r) :: sp) V prev) (hs : Srt fi (keys t0)) : k ∈ keys t0 ∧ (0 < done.length → prev < fi k) := by
  obtain ⟨h1, h2, h3, h4, h5⟩ := h
  refine ⟨by rw [h3]; simp [flat], fun h0 => ?_⟩
  obtain ⟨d, j, rfl⟩ : ∃ d j, done = d ++ [j] := ⟨done.dropLast, done.getLast (by intro e; simp [e] at h0), (List.dropLast_concat_getLast _).symm⟩
  rw [h5 d j rfl]
  rw [h3] at hs
  exact (List.pairwise_append.1 hs).2.2 j (by simp) k (by simp [keys, flat])

theorem trav_end (h : Trav x fi M t0 done .nil cur [] V prev) : ∀ j, V j = true ↔ j ∈ keys t0 := by
  intro j
  rw [h.vis j, h.eq]
  simp [keys, flat]

end

/-- What a node's children are, in a heap. -/
def KidOk (p : Nat → Int) (n : Nat) (v : Int) (k : Nat) : Prop := v = -1 ∨ ∃ j : Nat, j < n ∧ v = (j : Int) ∧ p j ≤ p k

theorem KidOk.int {p : Nat → Int} {n : Nat} {v : Int} {k : Nat} (h : KidOk p n v k) : -1 ≤ v ∧ v < n ∧ (0 ≤ v → p v.toNat ≤ p k) := by
  rcases h with rfl | ⟨j, hj, rfl, hp⟩
  · exact ⟨by omega, by omega, fun h => by omega⟩
  · exact ⟨by omega, by omega, fun _ => by simpa using hp⟩

theorem kid_of {x p : Nat → Int} {M : Mem} {n k : Nat} {t : BT Unit} {v : Int} (hin : In x M t v) (hb : ∀ j ∈ keys t, j < n) (hp : ∀ j ∈ keys t, p j ≤ p k) : KidOk p n v k := by
  cases t with
  | nil => exact .inl hin
  | node c o u l r => exact .inr ⟨c, hb c (by simp [keys]), hin.1, hp c (by simp [keys])⟩

theorem kids {x p : Nat → Int} {M : Mem} {n : Nat} : ∀ (t : BT Unit) (r : Int), In x M t r → Heap p t → (∀ j ∈ keys t, j < n) → ∀ k ∈ keys t, KidOk p n (M.L k) k ∧ KidOk p n (M.R k) k
  | .nil, _, _, _, _, k, hk => by simp [keys] at hk
  | .node c o u l rr, r, h, hh, hb, k, hk => by
    obtain ⟨_, hl, hr, _⟩ := h
    have bl : ∀ j ∈ keys l, j < n := fun j hj => hb j (by simp [keys, hj])
    have br : ∀ j ∈ keys rr, j < n := fun j hj => hb j (by simp [keys, hj])
    simp only [keys, List.mem_append, List.mem_cons] at hk
    rcases hk with hm | rfl | hm
    · exact kids l _ hl hh.2.2.1 bl k hm
    · exact ⟨kid_of hl bl hh.1, kid_of hr br hh.2.1⟩
    · exact kids rr _ hr hh.2.2.2 br k hm

end Go.Proofs.Qxb6613402a
