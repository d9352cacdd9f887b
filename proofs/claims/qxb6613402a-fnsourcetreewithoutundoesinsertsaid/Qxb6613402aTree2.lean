/-
  OWN WORK ON THIS SEAT. Treaps, more: insert, merge, without; two treaps over the same nodes with different priorities are one.
-/
import Derived.Test.Qxb6613402aTree
namespace Go.Proofs.Qxb6613402a
open Go.Deep (BT)

/-- What is known of the parts of a node's tree. -/
theorem parts {fi : Nat → Int} {k o : Nat} {u : Unit} {l rr : BT Unit} (hs : Srt fi (keys (.node k o u l rr))) :
    Srt fi (keys l) ∧ Srt fi (keys rr) ∧ (∀ j ∈ keys l, fi j < fi k) ∧ (∀ j ∈ keys rr, fi k < fi j) ∧ k ∉ keys l ∧ k ∉ keys rr ∧ (∀ j ∈ keys l, j ∉ keys rr) := by
  have hnd := hs.nodup
  simp only [keys] at hnd hs
  have hs' := List.pairwise_append.1 hs
  have hc := List.pairwise_cons.1 hs'.2.1
  have hnd' := List.nodup_append.1 hnd
  exact ⟨hs'.1, hc.2, fun j hj => hs'.2.2 j hj k (by simp), hc.1, fun hm => (hnd'.2.2 k hm k (by simp)) rfl, (List.nodup_cons.1 hnd'.2.1).1, fun j hj hj' => (hnd'.2.2 j hj j (by simp [hj'])) rfl⟩

/-! ### insert -/
def InsOut (x fi p : Nat → Int) (M : Mem) (t : BT Unit) (m : Nat) (M' : Mem) (r' : Int) : Prop :=
  ∃ t' A B, In x M' t' r' ∧ keys t = A ++ B ∧ keys t' = A ++ m :: B ∧ (∀ j ∈ A, fi j < fi m) ∧ (∀ j ∈ B, fi m < fi j) ∧ Heap p t' ∧ SameOff (m :: keys t) M M'

/-- A node that is in no tree. -/
def Alone (x : Nat → Int) (M : Mem) (m : Nat) : Prop := M.L m = -1 ∧ M.R m = -1 ∧ M.T m = x m

theorem ins_nil {x fi p : Nat → Int} {M : Mem} {m : Nat} (h : Alone x M m) : InsOut x fi p M .nil m M (m : Int) :=
  ⟨.node m 0 () .nil .nil, [], [], ⟨rfl, h.1, h.2.1, by rw [h.2.2]; rfl⟩, rfl, rfl, by simp, by simp, ⟨by simp [keys], by simp [keys], trivial, trivial⟩, SameOff.refl _ _⟩

theorem ins_top {x fi p : Nat → Int} {M M1 : Mem} {k o : Nat} {u : Unit} {l rr : BT Unit} {m : Nat} {ra rb : Int} (hm : ∀ j ∈ keys (.node k o u l rr), fi j ≠ fi m) (hh : Heap p (.node k o u l rr)) (hp : p k < p m)
    (h : SplitOut x fi p M (.node k o u l rr) (fi m) M1 ra rb) :
    InsOut x fi p M (.node k o u l rr) m (((M1.setL m ra).setR m rb).setT m (pullT x ((M1.setL m ra).setR m rb) m)) (m : Int) := by
  obtain ⟨a, b, ha, hb, hk, hA, hB, hH, hoff⟩ := h
  have hmn : m ∉ keys (.node k o u l rr) := fun hmm => hm m hmm rfl
  have ma : m ∉ keys a := fun h => hmn (by rw [← hk]; simp [h])
  have mb : m ∉ keys b := fun h => hmn (by rw [← hk]; simp [h])
  have hpk : ∀ j ∈ keys (.node k o u l rr), p j ≤ p m := by
    intro j hj
    simp only [keys, List.mem_append, List.mem_cons] at hj
    rcases hj with hj | rfl | hj
    · have := hh.1 j hj; omega
    · omega
    · have := hh.2.1 j hj; omega
  obtain ⟨ga, gb⟩ := hH hh
  have ina : In x ((M1.setL m ra).setR m rb) a (((M1.setL m ra).setR m rb).L m) := by
    show In x _ a (upd M1.L m ra m)
    rw [upd_same]; exact (ha.setL ma _).setR ma _
  have inb : In x ((M1.setL m ra).setR m rb) b (((M1.setL m ra).setR m rb).R m) := by
    show In x _ b (upd M1.R m rb m)
    rw [upd_same]; exact (hb.setL mb _).setR mb _
  refine ⟨.node m 0 () a b, keys a, keys b, ina.pull inb ma mb, hk.symm, rfl, hA, ?_, ?_, ?_⟩
  · intro j hj
    have h1 := hB j hj
    have h2 := hm j (by rw [← hk]; simp [hj])
    omega
  · exact ⟨fun j hj => hpk j (by rw [← hk]; simp [hj]), fun j hj => hpk j (by rw [← hk]; simp [hj]), ga, gb⟩
  · exact (((hoff.mono (fun j hj => by simp [hj])).setL (by simp) _).setR (by simp) _).setT (by simp) _

theorem ins_left {x fi p : Nat → Int} {M M1 : Mem} {k o : Nat} {u : Unit} {l rr : BT Unit} {m : Nat} {r ra : Int} (hin : In x M (.node k o u l rr) r) (hs : Srt fi (keys (.node k o u l rr)))
    (hm : ∀ j ∈ keys (.node k o u l rr), fi j ≠ fi m) (hh : Heap p (.node k o u l rr)) (hp : p m ≤ p k) (hlt : fi m < fi k)
    (h : InsOut x fi p M l m M1 ra) : InsOut x fi p M (.node k o u l rr) m ((M1.setL k ra).setT k (pullT x (M1.setL k ra) k)) (k : Int) := by
  obtain ⟨_, hl, hr, _⟩ := hin
  obtain ⟨t', A, B, ht, hkA, hkt, hA, hB, hH, hoff⟩ := h
  obtain ⟨s1, s2, s3, s4, k1, k2, kd⟩ := parts hs
  have hkm : k ≠ m := fun e => hm k (by simp [keys]) (by rw [e])
  have kt : k ∉ keys t' := by
    rw [hkt]; intro h; simp only [List.mem_append, List.mem_cons] at h
    rcases h with h | h | h
    · exact k1 (by rw [hkA]; simp [h])
    · exact hkm h
    · exact k1 (by rw [hkA]; simp [h])
  have mr : m ∉ keys rr := fun h => hm m (by simp [keys, h]) rfl
  have koff : k ∉ m :: keys l := by simp [hkm, k1]
  have eR : (M1.setL k ra).R k = M.R k := (hoff k koff).2.1
  have inr : In x (M1.setL k ra) rr ((M1.setL k ra).R k) := by
    rw [eR]
    exact (hr.off hoff (fun j hj => by simp only [List.mem_cons, not_or]; exact ⟨fun e => mr (e ▸ hj), fun h => kd j h hj⟩)).setL k2 _
  have int : In x (M1.setL k ra) t' ((M1.setL k ra).L k) := by
    show In x _ t' (upd M1.L k ra k)
    rw [upd_same]; exact ht.setL kt _
  refine ⟨.node k 0 () t' rr, A, B ++ k :: keys rr, int.pull inr kt k2, ?_, ?_, hA, ?_, ?_, ?_⟩
  · simp only [keys, hkA, List.append_assoc]
  · simp only [keys, hkt, List.append_assoc, List.cons_append]
  · intro j hj
    simp only [List.mem_append, List.mem_cons] at hj
    rcases hj with hj | rfl | hj
    · exact hB j hj
    · exact hlt
    · have := s4 j hj; omega
  · refine ⟨fun j hj => ?_, hh.2.1, hH, hh.2.2.2⟩
    rw [hkt] at hj
    simp only [List.mem_append, List.mem_cons] at hj
    rcases hj with hj | rfl | hj
    · exact hh.1 j (by rw [hkA]; simp [hj])
    · exact hp
    · exact hh.1 j (by rw [hkA]; simp [hj])
  · refine ((hoff.mono (fun j hj => ?_)).setL (by simp [keys]) _).setT (by simp [keys]) _
    simp only [List.mem_cons] at hj
    rcases hj with rfl | hj
    · simp
    · simp [keys, hj]

theorem ins_right {x fi p : Nat → Int} {M M1 : Mem} {k o : Nat} {u : Unit} {l rr : BT Unit} {m : Nat} {r ra : Int} (hin : In x M (.node k o u l rr) r) (hs : Srt fi (keys (.node k o u l rr)))
    (hm : ∀ j ∈ keys (.node k o u l rr), fi j ≠ fi m) (hh : Heap p (.node k o u l rr)) (hp : p m ≤ p k) (hge : ¬ fi m < fi k)
    (h : InsOut x fi p M rr m M1 ra) : InsOut x fi p M (.node k o u l rr) m ((M1.setR k ra).setT k (pullT x (M1.setR k ra) k)) (k : Int) := by
  obtain ⟨_, hl, hr, _⟩ := hin
  obtain ⟨t', A, B, ht, hkA, hkt, hA, hB, hH, hoff⟩ := h
  obtain ⟨s1, s2, s3, s4, k1, k2, kd⟩ := parts hs
  have hkm : k ≠ m := fun e => hm k (by simp [keys]) (by rw [e])
  have hlt : fi k < fi m := by have := hm k (by simp [keys]); omega
  have kt : k ∉ keys t' := by
    rw [hkt]; intro h; simp only [List.mem_append, List.mem_cons] at h
    rcases h with h | h | h
    · exact k2 (by rw [hkA]; simp [h])
    · exact hkm h
    · exact k2 (by rw [hkA]; simp [h])
  have ml : m ∉ keys l := fun h => hm m (by simp [keys, h]) rfl
  have koff : k ∉ m :: keys rr := by simp [hkm, k2]
  have eL : (M1.setR k ra).L k = M.L k := (hoff k koff).1
  have inl : In x (M1.setR k ra) l ((M1.setR k ra).L k) := by
    rw [eL]
    exact (hl.off hoff (fun j hj => by simp only [List.mem_cons, not_or]; exact ⟨fun e => ml (e ▸ hj), kd j hj⟩)).setR k1 _
  have int : In x (M1.setR k ra) t' ((M1.setR k ra).R k) := by
    show In x _ t' (upd M1.R k ra k)
    rw [upd_same]; exact ht.setR kt _
  refine ⟨.node k 0 () l t', keys l ++ k :: A, B, inl.pull int k1 kt, ?_, ?_, ?_, hB, ?_, ?_⟩
  · simp only [keys, hkA, List.append_assoc, List.cons_append]
  · simp only [keys, hkt, List.append_assoc, List.cons_append]
  · intro j hj
    simp only [List.mem_append, List.mem_cons] at hj
    rcases hj with hj | rfl | hj
    · have := s3 j hj; omega
    · exact hlt
    · exact hA j hj
  · refine ⟨hh.1, fun j hj => ?_, hh.2.2.1, hH⟩
    rw [hkt] at hj
    simp only [List.mem_append, List.mem_cons] at hj
    rcases hj with hj | rfl | hj
    · exact hh.2.1 j (by rw [hkA]; simp [hj])
    · exact hp
    · exact hh.2.1 j (by rw [hkA]; simp [hj])
  · refine ((hoff.mono (fun j hj => ?_)).setR (by simp [keys]) _).setT (by simp [keys]) _
    simp only [List.mem_cons] at hj
    rcases hj with rfl | hj
    · simp
    · simp [keys, hj]

/-- Behind an insert the nodes still rise. -/
theorem ins_srt {fi : Nat → Int} {A B : List Nat} {m : Nat} (hs : Srt fi (A ++ B)) (hA : ∀ j ∈ A, fi j < fi m) (hB : ∀ j ∈ B, fi m < fi j) : Srt fi (A ++ m :: B) := by
  have h := List.pairwise_append.1 hs
  refine List.pairwise_append.2 ⟨h.1, List.pairwise_cons.2 ⟨hB, h.2.1⟩, fun a ha b hb => ?_⟩
  simp only [List.mem_cons] at hb
  rcases hb with rfl | hb
  · exact hA a ha
  · exact h.2.2 a ha b hb

/-! ### merge -/
def MergeOut (x p : Nat → Int) (M : Mem) (ks ks' : List Nat) (M' : Mem) (r' : Int) : Prop :=
  ∃ t', In x M' t' r' ∧ keys t' = ks ++ ks' ∧ Heap p t' ∧ SameOff (ks ++ ks') M M'

theorem merge_a {x p : Nat → Int} {M M1 : Mem} {k o : Nat} {u : Unit} {l rr b : BT Unit} {r rb : Int} (hin : In x M (.node k o u l rr) r) (hnd : (keys (.node k o u l rr) ++ keys b).Nodup)
    (hh : Heap p (.node k o u l rr)) (hb : ∀ j ∈ keys b, p j ≤ p k) (h : MergeOut x p M (keys rr) (keys b) M1 rb) :
    MergeOut x p M (keys (.node k o u l rr)) (keys b) ((M1.setR k rb).setT k (pullT x (M1.setR k rb) k)) (k : Int) := by
  obtain ⟨_, hl, hr, _⟩ := hin
  obtain ⟨t', ht, hkt, hH, hoff⟩ := h
  simp only [keys, List.append_assoc, List.cons_append] at hnd
  have hnd' := List.nodup_append.1 hnd
  have hc := List.nodup_cons.1 hnd'.2.1
  have k1 : k ∉ keys l := fun hm => (hnd'.2.2 k hm k (by simp)) rfl
  have kt : k ∉ keys t' := by rw [hkt]; exact hc.1
  have ld : ∀ j ∈ keys l, j ∉ keys rr ++ keys b := fun j hj hj' => (hnd'.2.2 j hj j (by simp at hj' ⊢; exact .inr hj')) rfl
  have eL : (M1.setR k rb).L k = M.L k := (hoff k hc.1).1
  have inl : In x (M1.setR k rb) l ((M1.setR k rb).L k) := by rw [eL]; exact (hl.off hoff ld).setR k1 _
  have int : In x (M1.setR k rb) t' ((M1.setR k rb).R k) := by
    show In x _ t' (upd M1.R k rb k)
    rw [upd_same]; exact ht.setR kt _
  refine ⟨.node k 0 () l t', inl.pull int k1 kt, ?_, ?_, ?_⟩
  · simp only [keys, hkt, List.append_assoc, List.cons_append]
  · refine ⟨hh.1, fun j hj => ?_, hh.2.2.1, hH⟩
    rw [hkt] at hj
    simp only [List.mem_append] at hj
    rcases hj with hj | hj
    · exact hh.2.1 j hj
    · exact hb j hj
  · refine ((hoff.mono (fun j hj => ?_)).setR (by simp [keys]) _).setT (by simp [keys]) _
    simp only [List.mem_append] at hj
    rcases hj with hj | hj <;> simp [keys, hj]

theorem merge_b {x p : Nat → Int} {M M1 : Mem} {k o : Nat} {u : Unit} {l rr a : BT Unit} {r ra : Int} (hin : In x M (.node k o u l rr) r) (hnd : (keys a ++ keys (.node k o u l rr)).Nodup)
    (hh : Heap p (.node k o u l rr)) (ha : ∀ j ∈ keys a, p j ≤ p k) (h : MergeOut x p M (keys a) (keys l) M1 ra) :
    MergeOut x p M (keys a) (keys (.node k o u l rr)) ((M1.setL k ra).setT k (pullT x (M1.setL k ra) k)) (k : Int) := by
  obtain ⟨_, hl, hr, _⟩ := hin
  obtain ⟨t', ht, hkt, hH, hoff⟩ := h
  simp only [keys, ← List.append_assoc] at hnd
  have hnd' := List.nodup_append.1 hnd
  have hc := List.nodup_cons.1 hnd'.2.1
  have k1 : k ∉ keys a ++ keys l := fun hm => (hnd'.2.2 k hm k (by simp)) rfl
  have kt : k ∉ keys t' := by rw [hkt]; exact k1
  have rd : ∀ j ∈ keys rr, j ∉ keys a ++ keys l := fun j hj hj' => (hnd'.2.2 j hj' j (by simp [hj])) rfl
  have eR : (M1.setL k ra).R k = M.R k := (hoff k k1).2.1
  have inr : In x (M1.setL k ra) rr ((M1.setL k ra).R k) := by rw [eR]; exact (hr.off hoff rd).setL hc.1 _
  have int : In x (M1.setL k ra) t' ((M1.setL k ra).L k) := by
    show In x _ t' (upd M1.L k ra k)
    rw [upd_same]; exact ht.setL kt _
  refine ⟨.node k 0 () t' rr, int.pull inr kt hc.1, ?_, ?_, ?_⟩
  · simp only [keys, hkt, List.append_assoc]
  · refine ⟨fun j hj => ?_, hh.2.1, hH, hh.2.2.2⟩
    rw [hkt] at hj
    simp only [List.mem_append] at hj
    rcases hj with hj | hj
    · exact ha j hj
    · exact hh.1 j hj
  · refine ((hoff.mono (fun j hj => ?_)).setL (by simp [keys]) _).setT (by simp [keys]) _
    simp only [List.mem_append] at hj
    rcases hj with hj | hj <;> simp [keys, hj]

/-! ### without -/
def WoOut (x p : Nat → Int) (M : Mem) (t : BT Unit) (m : Nat) (M' : Mem) (r' : Int) : Prop :=
  ∃ t' A B, In x M' t' r' ∧ keys t = A ++ m :: B ∧ keys t' = A ++ B ∧ Heap p t' ∧ SameOff (keys t) M M'

theorem wo_left {x fi p : Nat → Int} {M M1 : Mem} {k o : Nat} {u : Unit} {l rr : BT Unit} {m : Nat} {r ra : Int} (hin : In x M (.node k o u l rr) r) (hs : Srt fi (keys (.node k o u l rr))) (hh : Heap p (.node k o u l rr))
    (h : WoOut x p M l m M1 ra) : WoOut x p M (.node k o u l rr) m ((M1.setL k ra).setT k (pullT x (M1.setL k ra) k)) (k : Int) := by
  obtain ⟨_, hl, hr, _⟩ := hin
  obtain ⟨t', A, B, ht, hkA, hkt, hH, hoff⟩ := h
  obtain ⟨s1, s2, s3, s4, k1, k2, kd⟩ := parts hs
  have sub : ∀ j ∈ keys t', j ∈ keys l := by
    intro j hj; rw [hkt] at hj; rw [hkA]; simp only [List.mem_append, List.mem_cons] at hj ⊢
    rcases hj with hj | hj
    · exact .inl hj
    · exact .inr (.inr hj)
  have kt : k ∉ keys t' := fun h => k1 (sub k h)
  have eR : (M1.setL k ra).R k = M.R k := (hoff k k1).2.1
  have inr : In x (M1.setL k ra) rr ((M1.setL k ra).R k) := by rw [eR]; exact (hr.off hoff (fun j hj hj' => kd j hj' hj)).setL k2 _
  have int : In x (M1.setL k ra) t' ((M1.setL k ra).L k) := by
    show In x _ t' (upd M1.L k ra k)
    rw [upd_same]; exact ht.setL kt _
  refine ⟨.node k 0 () t' rr, A, B ++ k :: keys rr, int.pull inr kt k2, ?_, ?_, ?_, ?_⟩
  · simp only [keys, hkA, List.append_assoc, List.cons_append]
  · simp only [keys, hkt, List.append_assoc]
  · exact ⟨fun j hj => hh.1 j (sub j hj), hh.2.1, hH, hh.2.2.2⟩
  · exact ((hoff.mono (fun j hj => by simp [keys, hj])).setL (by simp [keys]) _).setT (by simp [keys]) _

theorem wo_right {x fi p : Nat → Int} {M M1 : Mem} {k o : Nat} {u : Unit} {l rr : BT Unit} {m : Nat} {r ra : Int} (hin : In x M (.node k o u l rr) r) (hs : Srt fi (keys (.node k o u l rr))) (hh : Heap p (.node k o u l rr))
    (h : WoOut x p M rr m M1 ra) : WoOut x p M (.node k o u l rr) m ((M1.setR k ra).setT k (pullT x (M1.setR k ra) k)) (k : Int) := by
  obtain ⟨_, hl, hr, _⟩ := hin
  obtain ⟨t', A, B, ht, hkA, hkt, hH, hoff⟩ := h
  obtain ⟨s1, s2, s3, s4, k1, k2, kd⟩ := parts hs
  have sub : ∀ j ∈ keys t', j ∈ keys rr := by
    intro j hj; rw [hkt] at hj; rw [hkA]; simp only [List.mem_append, List.mem_cons] at hj ⊢
    rcases hj with hj | hj
    · exact .inl hj
    · exact .inr (.inr hj)
  have kt : k ∉ keys t' := fun h => k2 (sub k h)
  have eL : (M1.setR k ra).L k = M.L k := (hoff k k2).1
  have inl : In x (M1.setR k ra) l ((M1.setR k ra).L k) := by rw [eL]; exact (hl.off hoff kd).setR k1 _
  have int : In x (M1.setR k ra) t' ((M1.setR k ra).R k) := by
    show In x _ t' (upd M1.R k ra k)
    rw [upd_same]; exact ht.setR kt _
  refine ⟨.node k 0 () l t', keys l ++ k :: A, B, inl.pull int k1 kt, ?_, ?_, ?_, ?_⟩
  · simp only [keys, hkA, List.append_assoc, List.cons_append]
  · simp only [keys, hkt, List.append_assoc, List.cons_append]
  · exact ⟨hh.1, fun j hj => hh.2.1 j (sub j hj), hh.2.2.1, hH⟩
  · exact ((hoff.mono (fun j hj => by simp [keys, hj])).setR (by simp [keys]) _).setT (by simp [keys]) _

theorem wo_here {x p : Nat → Int} {M M1 : Mem} {k o : Nat} {u : Unit} {l rr : BT Unit} {r' : Int} (h : MergeOut x p M (keys l) (keys rr) M1 r') : WoOut x p M (.node k o u l rr) k M1 r' := by
  obtain ⟨t', ht, hkt, hH, hoff⟩ := h
  refine ⟨t', keys l, keys rr, ht, rfl, hkt, hH, hoff.mono (fun j hj => ?_)⟩
  simp only [List.mem_append] at hj
  rcases hj with hj | hj <;> simp [keys, hj]

theorem wo_srt {fi : Nat → Int} {A B : List Nat} {m : Nat} (hs : Srt fi (A ++ m :: B)) : Srt fi (A ++ B) := by
  have h := List.pairwise_append.1 hs
  exact List.pairwise_append.2 ⟨h.1, (List.pairwise_cons.1 h.2.1).2, fun a ha b hb => h.2.2 a ha b (by simp [hb])⟩

/-! ### the greatest key; uniqueness -/
theorem topT_max (x : Nat → Int) : ∀ t : BT Unit, t ≠ .nil → (∃ j ∈ keys t, topT x t = x j) ∧ ∀ j ∈ keys t, x j ≤ topT x t
  | .nil, h => absurd rfl h
  | .node k o u l r, _ => by
    have hl := topT_max x l
    have hr := topT_max x r
    cases l with
    | nil =>
      cases r with
      | nil => simp [keys, topT]
      | node k2 o2 u2 l2 r2 =>
        obtain ⟨⟨j, hj, e⟩, hm⟩ := hr (by simp)
        have et : topT x (.node k o u .nil (.node k2 o2 u2 l2 r2)) = max (x k) (topT x (.node k2 o2 u2 l2 r2)) := rfl
        rw [et]
        refine ⟨?_, ?_⟩
        · by_cases c : x k ≤ topT x (.node k2 o2 u2 l2 r2)
          · exact ⟨j, by simp only [keys, List.mem_append, List.mem_cons] at hj ⊢; exact .inr (.inr hj), by rw [← e]; omega⟩
          · exact ⟨k, by simp [keys], by omega⟩
        · intro i hi
          simp only [keys, List.nil_append, List.mem_cons] at hi
          rcases hi with rfl | hi
          · omega
          · have := hm i (by simpa [keys] using hi); omega
    | node k1 o1 u1 l1 r1 =>
      obtain ⟨⟨j1, hj1, e1⟩, hm1⟩ := hl (by simp)
      cases r with
      | nil =>
        have et : topT x (.node k o u (.node k1 o1 u1 l1 r1) .nil) = max (x k) (topT x (.node k1 o1 u1 l1 r1)) := rfl
        rw [et]
        refine ⟨?_, ?_⟩
        · by_cases c : x k ≤ topT x (.node k1 o1 u1 l1 r1)
          · exact ⟨j1, by rw [keys]; simp [hj1], by rw [← e1]; omega⟩
          · exact ⟨k, by simp [keys], by omega⟩
        · intro i hi
          rw [keys] at hi
          simp only [List.mem_append, List.mem_cons] at hi
          rcases hi with hi | rfl | hi
          · have := hm1 i hi; omega
          · omega
          · simp [keys] at hi
      | node k2 o2 u2 l2 r2 =>
        obtain ⟨⟨j2, hj2, e2⟩, hm2⟩ := hr (by simp)
        have et : topT x (.node k o u (.node k1 o1 u1 l1 r1) (.node k2 o2 u2 l2 r2)) = max (max (x k) (topT x (.node k1 o1 u1 l1 r1))) (topT x (.node k2 o2 u2 l2 r2)) := rfl
        rw [et]
        refine ⟨?_, ?_⟩
        · by_cases c2 : max (x k) (topT x (.node k1 o1 u1 l1 r1)) ≤ topT x (.node k2 o2 u2 l2 r2)
          · exact ⟨j2, by rw [keys]; simp [hj2], by rw [← e2]; omega⟩
          · by_cases c : x k ≤ topT x (.node k1 o1 u1 l1 r1)
            · exact ⟨j1, by rw [keys]; simp [hj1], by rw [← e1]; omega⟩
            · exact ⟨k, by rw [keys]; simp, by omega⟩
        · intro i hi
          rw [keys] at hi
          simp only [List.mem_append, List.mem_cons] at hi
          rcases hi with hi | rfl | hi
          · have := hm1 i hi; omega
          · omega
          · have := hm2 i hi; omega

theorem topT_keys {x : Nat → Int} {t t' : BT Unit} (ht : t ≠ .nil) (ht' : t' ≠ .nil) (h : keys t = keys t') : topT x t = topT x t' := by
  obtain ⟨⟨j, hj, e⟩, hm⟩ := topT_max x t ht
  obtain ⟨⟨j', hj', e'⟩, hm'⟩ := topT_max x t' ht'
  have h1 := hm j' (by rw [h]; exact hj')
  have h2 := hm' j (by rw [← h]; exact hj)
  omega

theorem app_mid {A B A' B' : List Nat} {k : Nat} (h : A ++ k :: B = A' ++ k :: B') (hnd : (A ++ k :: B).Nodup) : A = A' ∧ B = B' := by
  induction A generalizing A' with
  | nil =>
    cases A' with
    | nil => simpa using h
    | cons c A' =>
      simp at h
      obtain ⟨rfl, rfl⟩ := h
      simp at hnd
  | cons c A ih =>
    cases A' with
    | nil =>
      simp at h
      obtain ⟨rfl, rfl⟩ := h
      simp at hnd
    | cons c' A' =>
      simp at h
      obtain ⟨rfl, h⟩ := h
      obtain ⟨e1, e2⟩ := ih h (by simp at hnd ⊢; exact hnd.2)
      exact ⟨by rw [e1], e2⟩

/-- Two treaps with the same nodes in the same order and no priority twice lie alike. -/
theorem unique {x p : Nat → Int} {M M' : Mem} : ∀ (t t' : BT Unit) (r r' : Int), In x M t r → In x M' t' r' → Heap p t → Heap p t' → keys t = keys t' → (keys t).Nodup → (∀ i ∈ keys t, ∀ j ∈ keys t, p i = p j → i = j) →
    r = r' ∧ ∀ j ∈ keys t, M.L j = M'.L j ∧ M.R j = M'.R j ∧ M.T j = M'.T j
  | .nil, .nil, r, r', h, h', _, _, _, _, _ => ⟨by rw [show r = -1 from h, show r' = -1 from h'], by simp [keys]⟩
  | .nil, .node k o u l rr, _, _, _, _, _, _, he, _, _ => by simp [keys] at he
  | .node k o u l rr, .nil, _, _, _, _, _, _, he, _, _ => by simp [keys] at he
  | .node k o u l rr, .node k' o' u' l' rr', r, r', h, h', hh, hh', he, hnd, hinj => by
    have hk' : k' ∈ keys (.node k o u l rr) := by rw [he]; simp [keys]
    have hk : k ∈ keys (.node k' o' u' l' rr') := by rw [← he]; simp [keys]
    have a1 : p k' ≤ p k := by
      simp only [keys, List.mem_append, List.mem_cons] at hk'
      rcases hk' with hm | rfl | hm
      · exact hh.1 _ hm
      · exact Int.le_refl _
      · exact hh.2.1 _ hm
    have a2 : p k ≤ p k' := by
      simp only [keys, List.mem_append, List.mem_cons] at hk
      rcases hk with hm | rfl | hm
      · exact hh'.1 _ hm
      · exact Int.le_refl _
      · exact hh'.2.1 _ hm
    have ek : k = k' := hinj k (by simp [keys]) k' hk' (by omega)
    subst ek
    have et : topT x (.node k o u l rr) = topT x (.node k o' u' l' rr') := topT_keys (by simp) (by simp) he
    have he2 := he
    have hnd2 := hnd
    simp only [keys] at he2 hnd2
    obtain ⟨el, er⟩ := app_mid he2 hnd2
    have n1 := List.nodup_append.1 hnd2
    obtain ⟨h1, h2, h3, h4⟩ := h
    obtain ⟨h1', h2', h3', h4'⟩ := h'
    have il := unique l l' _ _ h2 h2' hh.2.2.1 hh'.2.2.1 el n1.1 (fun i hi j hj => hinj i (by simp [keys, hi]) j (by simp [keys, hj]))
    have ir := unique rr rr' _ _ h3 h3' hh.2.2.2 hh'.2.2.2 er (List.nodup_cons.1 n1.2.1).2 (fun i hi j hj => hinj i (by simp [keys, hi]) j (by simp [keys, hj]))
    refine ⟨by rw [h1, h1'], fun j hj => ?_⟩
    simp only [keys, List.mem_append, List.mem_cons] at hj
    rcases hj with hm | rfl | hm
    · exact il.2 j hm
    · exact ⟨il.1, ir.1, by rw [h4, h4', et]⟩
    · exact ir.2 j hm

end Go.Proofs.Qxb6613402a
