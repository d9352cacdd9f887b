/-
  OWN WORK ON THIS SEAT. Treaps over a memory of three number rows (left, right, top): no Go in sight.
  The trees are the library's 'BT Unit': '.node k _ _ l r': node number k.
-/
import Derived.Deep.Trees
namespace Go.Proofs.Qxb6613402a
open Go.Deep (BT)

/-- What changes in a tree's memory: each node's two children (-1 for none) and the greatest key below it. -/
structure Mem where
  L : Nat → Int
  R : Nat → Int
  T : Nat → Int

def upd (f : Nat → Int) (k : Nat) (v : Int) : Nat → Int := fun i => if i = k then v else f i
theorem upd_same (f : Nat → Int) (k : Nat) (v : Int) : upd f k v k = v := by simp [upd]
theorem upd_other (f : Nat → Int) {k i : Nat} (v : Int) (h : i ≠ k) : upd f k v i = f i := by simp [upd, h]

def Mem.setL (M : Mem) (k : Nat) (v : Int) : Mem := { M with L := upd M.L k v }
def Mem.setR (M : Mem) (k : Nat) (v : Int) : Mem := { M with R := upd M.R k v }
def Mem.setT (M : Mem) (k : Nat) (v : Int) : Mem := { M with T := upd M.T k v }

/-- The nodes, from left to right. -/
def keys : BT Unit → List Nat
  | .nil => []
  | .node k _ _ l r => keys l ++ k :: keys r

/-- The greatest key below, as 'pull' reckons it. -/
def topT (x : Nat → Int) : BT Unit → Int
  | .nil => 0
  | .node k _ _ l r =>
    match r with
    | .nil => (match l with | .nil => x k | .node .. => max (x k) (topT x l))
    | .node .. => max (match l with | .nil => x k | .node .. => max (x k) (topT x l)) (topT x r)

/-- The tree t lies in M, its root's number r (-1 for none), every top right. -/
def In (x : Nat → Int) (M : Mem) : BT Unit → Int → Prop
  | .nil, r => r = -1
  | .node k o a l rr, r => r = (k : Int) ∧ In x M l (M.L k) ∧ In x M rr (M.R k) ∧ M.T k = topT x (.node k o a l rr)

/-- No child's priority above its parent's. -/
def Heap (p : Nat → Int) : BT Unit → Prop
  | .nil => True
  | .node k _ _ l r => (∀ j ∈ keys l, p j ≤ p k) ∧ (∀ j ∈ keys r, p j ≤ p k) ∧ Heap p l ∧ Heap p r

/-- M' is M but for the nodes of ks. -/
def SameOff (ks : List Nat) (M M' : Mem) : Prop := ∀ j, j ∉ ks → M'.L j = M.L j ∧ M'.R j = M.R j ∧ M'.T j = M.T j

theorem SameOff.refl (ks : List Nat) (M : Mem) : SameOff ks M M := fun _ _ => ⟨rfl, rfl, rfl⟩
theorem SameOff.trans {ks : List Nat} {a b c : Mem} (h : SameOff ks a b) (h' : SameOff ks b c) : SameOff ks a c := fun j hj =>
  ⟨(h' j hj).1.trans (h j hj).1, (h' j hj).2.1.trans (h j hj).2.1, (h' j hj).2.2.trans (h j hj).2.2⟩
theorem SameOff.mono {ks ks' : List Nat} {a b : Mem} (h : SameOff ks a b) (hs : ∀ j ∈ ks, j ∈ ks') : SameOff ks' a b := fun j hj => h j (fun hm => hj (hs j hm))
theorem SameOff.setL {ks : List Nat} {a b : Mem} (h : SameOff ks a b) {k : Nat} (hk : k ∈ ks) (v : Int) : SameOff ks a (b.setL k v) := fun j hj => by
  have hne : j ≠ k := fun e => hj (e ▸ hk)
  exact ⟨by simp [Mem.setL, upd, hne, (h j hj).1], (h j hj).2.1, (h j hj).2.2⟩
theorem SameOff.setR {ks : List Nat} {a b : Mem} (h : SameOff ks a b) {k : Nat} (hk : k ∈ ks) (v : Int) : SameOff ks a (b.setR k v) := fun j hj => by
  have hne : j ≠ k := fun e => hj (e ▸ hk)
  exact ⟨(h j hj).1, by simp [Mem.setR, upd, hne, (h j hj).2.1], (h j hj).2.2⟩
theorem SameOff.setT {ks : List Nat} {a b : Mem} (h : SameOff ks a b) {k : Nat} (hk : k ∈ ks) (v : Int) : SameOff ks a (b.setT k v) := fun j hj => by
  have hne : j ≠ k := fun e => hj (e ▸ hk)
  exact ⟨(h j hj).1, (h j hj).2.1, by simp [Mem.setT, upd, hne, (h j hj).2.2]⟩

theorem In.congr {x : Nat → Int} {M M' : Mem} : ∀ (t : BT Unit) (r : Int), (∀ j ∈ keys t, M'.L j = M.L j ∧ M'.R j = M.R j ∧ M'.T j = M.T j) → In x M t r → In x M' t r
  | .nil, r, _, h => h
  | .node k o a l rr, r, hs, h => by
    obtain ⟨h1, h2, h3, h4⟩ := h
    have hk := hs k (by simp [keys])
    refine ⟨h1, ?_, ?_, ?_⟩
    · rw [hk.1]; exact In.congr l _ (fun j hj => hs j (by simp [keys, hj])) h2
    · rw [hk.2.1]; exact In.congr rr _ (fun j hj => hs j (by simp [keys, hj])) h3
    · rw [hk.2.2]; exact h4

theorem In.off {x : Nat → Int} {M M' : Mem} {ks : List Nat} {t : BT Unit} {r : Int} (h : In x M t r) (hs : SameOff ks M M') (hd : ∀ j ∈ keys t, j ∉ ks) : In x M' t r :=
  In.congr t r (fun j hj => hs j (hd j hj)) h

theorem In.setL {x : Nat → Int} {M : Mem} {t : BT Unit} {r : Int} (h : In x M t r) {k : Nat} (hk : k ∉ keys t) (v : Int) : In x (M.setL k v) t r :=
  h.off (ks := [k]) ((SameOff.refl _ _).setL (by simp) v) (fun j hj => by simp; exact fun e => hk (e ▸ hj))
theorem In.setR {x : Nat → Int} {M : Mem} {t : BT Unit} {r : Int} (h : In x M t r) {k : Nat} (hk : k ∉ keys t) (v : Int) : In x (M.setR k v) t r :=
  h.off (ks := [k]) ((SameOff.refl _ _).setR (by simp) v) (fun j hj => by simp; exact fun e => hk (e ▸ hj))
theorem In.setT {x : Nat → Int} {M : Mem} {t : BT Unit} {r : Int} (h : In x M t r) {k : Nat} (hk : k ∉ keys t) (v : Int) : In x (M.setT k v) t r :=
  h.off (ks := [k]) ((SameOff.refl _ _).setT (by simp) v) (fun j hj => by simp; exact fun e => hk (e ▸ hj))

/-- What 'pull' puts at node k. -/
def pullT (x : Nat → Int) (M : Mem) (k : Nat) : Int :=
  let m := if 0 ≤ M.L k then max (x k) (M.T (M.L k).toNat) else x k
  if 0 ≤ M.R k then max m (M.T (M.R k).toNat) else m

theorem In.pull {x : Nat → Int} {M : Mem} {k : Nat} {l rr : BT Unit} (hl : In x M l (M.L k)) (hr : In x M rr (M.R k)) (kl : k ∉ keys l) (kr : k ∉ keys rr) :
    In x (M.setT k (pullT x M k)) (.node k 0 () l rr) (k : Int) := by
  refine ⟨rfl, hl.setT kl _, hr.setT kr _, ?_⟩
  show upd M.T k (pullT x M k) k = _
  rw [upd_same]
  unfold pullT
  cases l with
  | nil =>
    have e1 : M.L k = -1 := hl
    cases rr with
    | nil =>
      have e2 : M.R k = -1 := hr
      simp [e1, e2, topT]
    | node k2 o2 a2 l2 r2 =>
      obtain ⟨e2, _, _, e3⟩ := hr
      simp [e1, e2, topT, e3]
  | node k1 o1 a1 l1 r1 =>
    obtain ⟨e1, _, _, e4⟩ := hl
    cases rr with
    | nil =>
      have e2 : M.R k = -1 := hr
      simp [e1, e2, topT, e4]
    | node k2 o2 a2 l2 r2 =>
      obtain ⟨e2, _, _, e3⟩ := hr
      simp [e1, e2, topT, e3, e4]

/-- Strictly rising in fi from left to right. -/
def Srt (fi : Nat → Int) (ks : List Nat) : Prop := ks.Pairwise (fun a b => fi a < fi b)

theorem Srt.nodup {fi : Nat → Int} {ks : List Nat} (h : Srt fi ks) : ks.Nodup := List.Pairwise.imp (fun {a b} hab e => by subst e; omega) h

/-! ### split -/
def SplitOut (x fi p : Nat → Int) (M : Mem) (t : BT Unit) (X : Int) (M' : Mem) (ra rb : Int) : Prop :=
  ∃ a b, In x M' a ra ∧ In x M' b rb ∧ keys a ++ keys b = keys t ∧ (∀ j ∈ keys a, fi j < X) ∧ (∀ j ∈ keys b, ¬ fi j < X) ∧ (Heap p t → Heap p a ∧ Heap p b) ∧ SameOff (keys t) M M'

theorem split_nil (x fi p : Nat → Int) (M : Mem) (X : Int) : SplitOut x fi p M .nil X M (-1) (-1) :=
  ⟨.nil, .nil, rfl, rfl, rfl, by simp [keys], by simp [keys], fun _ => ⟨trivial, trivial⟩, SameOff.refl _ _⟩

theorem split_right {x fi p : Nat → Int} {M M1 : Mem} {k o : Nat} {u : Unit} {l rr : BT Unit} {X : Int} {r ra rb : Int} (hin : In x M (.node k o u l rr) r) (hs : Srt fi (keys (.node k o u l rr))) (hlt : fi k < X)
    (h : SplitOut x fi p M rr X M1 ra rb) : SplitOut x fi p M (.node k o u l rr) X ((M1.setR k ra).setT k (pullT x (M1.setR k ra) k)) (k : Int) rb := by
  obtain ⟨_, hl, hr, _⟩ := hin
  obtain ⟨a, b, ha, hb, hk, hA, hB, hH, hoff⟩ := h
  have hnd := hs.nodup
  simp only [keys] at hnd hs
  have hs' := List.pairwise_append.1 hs
  have hnd' := List.nodup_append.1 hnd
  have k1 : k ∉ keys l := fun hm => (hnd'.2.2 k hm k (by simp)) rfl
  have k2 : k ∉ keys rr := (List.nodup_cons.1 hnd'.2.1).1
  have kd : ∀ j ∈ keys l, j ∉ keys rr := fun j hj hj' => (hnd'.2.2 j hj j (by simp [hj'])) rfl
  have ka : k ∉ keys a := fun hm => k2 (by rw [← hk]; simp [hm])
  have kb : k ∉ keys b := fun hm => k2 (by rw [← hk]; simp [hm])
  have eL : (M1.setR k ra).L k = M.L k := (hoff k k2).1
  have eR : (M1.setR k ra).R k = ra := upd_same _ _ _
  have inl : In x (M1.setR k ra) l ((M1.setR k ra).L k) := by rw [eL]; exact (hl.off hoff kd).setR k1 _
  have ina : In x (M1.setR k ra) a ((M1.setR k ra).R k) := by rw [eR]; exact ha.setR ka _
  refine ⟨.node k 0 () l a, b, inl.pull ina k1 ka, (hb.setR kb _).setT kb _, ?_, ?_, hB, ?_, ?_⟩
  · simp only [keys, List.append_assoc, List.cons_append, hk]
  · intro j hj
    simp only [keys, List.mem_append, List.mem_cons] at hj
    rcases hj with hj | rfl | hj
    · have := hs'.2.2 j hj k (by simp); omega
    · exact hlt
    · exact hA j hj
  · intro hh
    obtain ⟨h1, h2, h3, h4⟩ := hh
    obtain ⟨ga, gb⟩ := hH h4
    exact ⟨⟨h1, fun j hj => h2 j (by rw [← hk]; simp [hj]), h3, ga⟩, gb⟩
  · exact ((hoff.mono (fun j hj => by simp [keys, hj])).setR (by simp [keys]) _).setT (by simp [keys]) _

theorem split_left {x fi p : Nat → Int} {M M1 : Mem} {k o : Nat} {u : Unit} {l rr : BT Unit} {X : Int} {r ra rb : Int} (hin : In x M (.node k o u l rr) r) (hs : Srt fi (keys (.node k o u l rr))) (hge : ¬ fi k < X)
    (h : SplitOut x fi p M l X M1 ra rb) : SplitOut x fi p M (.node k o u l rr) X ((M1.setL k rb).setT k (pullT x (M1.setL k rb) k)) ra (k : Int) := by
  obtain ⟨_, hl, hr, _⟩ := hin
  obtain ⟨a, b, ha, hb, hk, hA, hB, hH, hoff⟩ := h
  have hnd := hs.nodup
  simp only [keys] at hnd hs
  have hs' := List.pairwise_append.1 hs
  have hnd' := List.nodup_append.1 hnd
  have k1 : k ∉ keys l := fun hm => (hnd'.2.2 k hm k (by simp)) rfl
  have k2 : k ∉ keys rr := (List.nodup_cons.1 hnd'.2.1).1
  have kd : ∀ j ∈ keys rr, j ∉ keys l := fun j hj hj' => (hnd'.2.2 j hj' j (by simp [hj])) rfl
  have ka : k ∉ keys a := fun hm => k1 (by rw [← hk]; simp [hm])
  have kb : k ∉ keys b := fun hm => k1 (by rw [← hk]; simp [hm])
  have eR : (M1.setL k rb).R k = M.R k := (hoff k k1).2.1
  have eL : (M1.setL k rb).L k = rb := upd_same _ _ _
  have inr : In x (M1.setL k rb) rr ((M1.setL k rb).R k) := by rw [eR]; exact (hr.off hoff kd).setL k2 _
  have inb : In x (M1.setL k rb) b ((M1.setL k rb).L k) := by rw [eL]; exact hb.setL kb _
  refine ⟨a, .node k 0 () b rr, (ha.setL ka _).setT ka _, inb.pull inr kb k2, ?_, hA, ?_, ?_, ?_⟩
  · simp only [keys, ← List.append_assoc, hk]
  · intro j hj
    simp only [keys, List.mem_append, List.mem_cons] at hj
    rcases hj with hj | rfl | hj
    · exact hB j hj
    · exact hge
    · have := (List.pairwise_cons.1 hs'.2.1).1 j hj; omega
  · intro hh
    obtain ⟨h1, h2, h3, h4⟩ := hh
    obtain ⟨ga, gb⟩ := hH h3
    exact ⟨ga, ⟨fun j hj => h1 j (by rw [← hk]; simp [hj]), h2, gb, h4⟩⟩
  · exact ((hoff.mono (fun j hj => by simp [keys, hj])).setL (by simp [keys]) _).setT (by simp [keys]) _

end Go.Proofs.Qxb6613402a
