import Derived.Test.Qxb6613402aW9
import Derived.Deep.RegionHeld
namespace Go.Proofs.Qxb6613402a
open Go.RowKit
open Go.Deep (BT)

theorem MergeOut.off {x p : Nat → Int} {M M' : Mem} {ks ks' : List Nat} {r' : Int} (h : MergeOut x p M ks ks' M' r') : SameOff (ks ++ ks') M M' := by
  obtain ⟨_, _, _, _, h⟩ := h
  exact h
theorem MergeOut.chi {x p : Nat → Int} {M M' : Mem} {ks ks' : List Nat} {r' : Int} {n : Nat} (h : MergeOut x p M ks ks' M' r') (h1 : ∀ j ∈ ks, j < n) (h2 : ∀ j ∈ ks', j < n) : Chi n r' := by
  obtain ⟨t', i1, i2, _⟩ := h
  refine i1.chi (fun j hj => ?_)
  rw [i2] at hj
  simp only [List.mem_append] at hj
  rcases hj with hj | hj
  · exact h1 j hj
  · exact h2 j hj

set_option maxRecDepth 100000 in
set_option maxHeartbeats 2000000 in
theorem merge44 (s : Sh) : ∀ (N : Nat) (a b : BT Unit) (M : Mem) (ra rb : Int) (w : World), (keys a).length + (keys b).length ≤ N → TreeAt s w M → In s.tx M a ra → In s.tx M b rb → (keys a ++ keys b).Nodup → (∀ j ∈ keys a, j < s.n) → (∀ j ∈ keys b, j < s.n) → Heap s.pr a → Heap s.pr b →
    Calls Try.prog 44 #[.pointer (some ⟨s.bt, 0, none⟩), .int .i32 ra, .int .i32 rb] w fun e w' =>
      ∃ M' r', e = .returned (.int .i32 r') ∧ MergeOut s.tx s.pr M (keys a) (keys b) M' r' ∧ TreeAt s w' M' ∧ Fr s.bs w w'
  | _, .nil, b, M, ra, rb, w, _, h, ia, ib, hnd, ba, bb, ha, hb => by
    obtain rfl : ra = -1 := ia
    go_enter Try.func44, Try.ntmps44
    go_wp2_with fail
    go_ret
    exact ⟨M, _, rfl, ⟨b, ib, rfl, hb, SameOff.refl _ _⟩, h, Fr.refl _ _⟩
  | _, .node k o u l rr, .nil, M, ra, rb, w, _, h, ia, ib, hnd, ba, bb, ha, hb => by
    have ia' := ia
    obtain ⟨rfl, _, _, _⟩ := ia'
    obtain rfl : rb = -1 := ib
    have hk : k < s.n := ba k (by simp [keys])
    have hn := h.hn
    go_enter Try.func44, Try.ntmps44
    go_wp2_with fail
    go_ret
    exact ⟨M, _, rfl, ⟨.node k o u l rr, ia, by simp [keys], ha, SameOff.refl _ _⟩, h, Fr.refl _ _⟩
  | 0, .node k o u l rr, .node k' o' u' l' rr', M, ra, rb, w, hN, h, ia, ib, hnd, ba, bb, ha, hb => by
    simp [keys] at hN
  | N + 1, .node k o u l rr, .node k' o' u' l' rr', M, ra, rb, w, hN, h, ia, ib, hnd, ba, bb, ha, hb => by
    have ia' := ia
    have ib' := ib
    obtain ⟨rfl, hl, hr, _⟩ := ia'
    obtain ⟨rfl, hl', hr', _⟩ := ib'
    have hk : k < s.n := ba k (by simp [keys])
    have hk' : k' < s.n := bb k' (by simp [keys])
    have hn := h.hn
    have c1 : w.cell? ⟨s.bt, 1, none⟩ = some (.slice (some ⟨s.bn, 0, none⟩) s.n s.cn) := h.head.cell (by omega)
    have n4 : w.cell? ⟨s.bn, k * 7 + 4, none⟩ = some (.int .u64 (s.pr k)) := h.cellN hk (by omega)
    have n6 : w.cell? ⟨s.bn, k * 7 + 6, none⟩ = some (.int .i32 (M.R k)) := h.cellN hk (by omega)
    have m4 : w.cell? ⟨s.bn, k' * 7 + 4, none⟩ = some (.int .u64 (s.pr k')) := h.cellN hk' (by omega)
    have m5 : w.cell? ⟨s.bn, k' * 7 + 5, none⟩ = some (.int .i32 (M.L k')) := h.cellN hk' (by omega)
    have bl : ∀ j ∈ keys l, j < s.n := fun j hj => ba j (by simp [keys, hj])
    have br : ∀ j ∈ keys rr, j < s.n := fun j hj => ba j (by simp [keys, hj])
    have bl' : ∀ j ∈ keys l', j < s.n := fun j hj => bb j (by simp [keys, hj])
    have br' : ∀ j ∈ keys rr', j < s.n := fun j hj => bb j (by simp [keys, hj])
    by_cases hp : s.pr k' < s.pr k
    · have hpb : ∀ j ∈ keys (.node k' o' u' l' rr'), s.pr j ≤ s.pr k := by
        intro j hj
        simp only [keys, List.mem_append, List.mem_cons] at hj
        rcases hj with hj | rfl | hj
        · have := hb.1 j hj; omega
        · omega
        · have := hb.2.1 j hj; omega
      have hnd2 : k ∉ keys rr ++ keys (.node k' o' u' l' rr') ∧ (keys rr ++ keys (.node k' o' u' l' rr')).Nodup := by
        have h1 := hnd
        rw [keys, List.append_assoc, List.cons_append] at h1
        exact List.nodup_cons.1 (List.nodup_append.1 h1).2.1
      have hN2 : (keys rr).length + (keys (.node k' o' u' l' rr')).length ≤ N := by
        have : (keys (.node k o u l rr)).length = (keys l).length + ((keys rr).length + 1) := by simp [keys]
        omega
      have IH : Hid (∀ w', TreeAt s w' M → Calls Try.prog 44 #[.pointer (some ⟨s.bt, 0, none⟩), .int .i32 (M.R k), .int .i32 k'] w' fun e w'' =>
          ∃ M' r', e = .returned (.int .i32 r') ∧ MergeOut s.tx s.pr M (keys rr) (keys (.node k' o' u' l' rr')) M' r' ∧ TreeAt s w'' M' ∧ Fr s.bs w' w'') := fun w' h' => merge44 s N rr (.node k' o' u' l' rr') M (M.R k) k' w' hN2 h' hr ib hnd2.2 br bb ha.2.2.2 hb
      have HA : Hid (∀ M1 r1, MergeOut s.tx s.pr M (keys rr) (keys (.node k' o' u' l' rr')) M1 r1 → M1.R k = M.R k ∧ Chi s.n ((M1.setR k r1).L k) ∧ Chi s.n ((M1.setR k r1).R k) ∧ MergeOut s.tx s.pr M (keys (.node k o u l rr)) (keys (.node k' o' u' l' rr')) ((M1.setR k r1).setT k (pullT s.tx (M1.setR k r1) k)) (k : Int)) := by
        intro M1 r1 hm
        refine ⟨(hm.off k hnd2.1).2.1, ?_, ?_, merge_a ia hnd ha hpb hm⟩
        · show Chi s.n (M1.L k)
          rw [(hm.off k hnd2.1).1]; exact hl.chi bl
        · show Chi s.n (upd M1.R k r1 k)
          rw [upd_same]; exact hm.chi br bb
      clear hN2 hnd2 hpb hN hnd ba bb ha hb ia ib hl hr hl' hr' bl br bl' br'
      go_enter Try.func44, Try.ntmps44
      go_wp2_with fail
      go_quiet (fail)
      go_wp2_with fail
      go_region_with ((go_at_call 44; refine Calls.mono (IH.out _ ((h.drewN _).drew)) ?_; rintro e w1 ⟨M1, r1, rfl, hso, h1, F1⟩; have q1 : w1.cell? ⟨s.bt, 1, none⟩ = some (.slice (some ⟨s.bn, 0, none⟩) s.n s.cn) := h1.head.cell (by omega); have q2 : w1.cell? ⟨s.bn, k * 7 + 6, none⟩ = some (.int .i32 (M.R k)) := (h1.cellN hk (by omega)).trans (by rw [← (HA.out M1 r1 hso).1]; rfl); have q3 : w1.frozen? ⟨s.bn, k * 7 + 6, none⟩ = false := h1.frozenN _))
      all_goals
       have F1' : Fr s.bs w w1 := ((Fr.refl _ w).drewN _).drew.trans F1
       have h2 := h1.setR hk r1
       obtain ⟨_, cL, cR, HO⟩ := HA.out M1 r1 hso
       have C2 : Hid _ := pull43 s (M1.setR k r1) k _ h2 hk cL cR
       have F2 : Fr s.bs w (w1.setCell ⟨s.bn, k * 7 + 6, none⟩ (.int .i32 r1)) := F1'.setCell (.inl (by simp [Sh.bs])) _
       have HOH : Hid _ := HO
       clear h1 h2 hso cL cR HO q1 q2 q3 c1 n4 n6 m4 m5 F1 F1' IH HA
       go_wp2_with fail
       refine Calls.mono C2.out ?_
       rintro e w2 ⟨rfl, h3, F3⟩
       clear C2
       go_wp2_with fail
       go_ret
       exact ⟨_, _, rfl, HOH.out, h3, F2.trans F3⟩
    · have hd' : decide (s.pr k' < s.pr k) = false := by simpa using hp
      have hpa : ∀ j ∈ keys (.node k o u l rr), s.pr j ≤ s.pr k' := by
        intro j hj
        simp only [keys, List.mem_append, List.mem_cons] at hj
        rcases hj with hj | rfl | hj
        · have := ha.1 j hj; omega
        · omega
        · have := ha.2.1 j hj; omega
      have hnd2 : k' ∉ keys (.node k o u l rr) ++ keys l' ∧ (keys (.node k o u l rr) ++ keys l').Nodup := by
        have h1 := hnd
        rw [keys.eq_2 k' o' u' l' rr', ← List.append_assoc] at h1
        have h2 := List.nodup_append.1 h1
        exact ⟨fun hm => (h2.2.2 k' hm k' (by simp)) rfl, h2.1⟩
      have hN2 : (keys (.node k o u l rr)).length + (keys l').length ≤ N := by
        have : (keys (.node k' o' u' l' rr')).length = (keys l').length + ((keys rr').length + 1) := by simp [keys]
        omega
      have IH : Hid (∀ w', TreeAt s w' M → Calls Try.prog 44 #[.pointer (some ⟨s.bt, 0, none⟩), .int .i32 k, .int .i32 (M.L k')] w' fun e w'' =>
          ∃ M' r', e = .returned (.int .i32 r') ∧ MergeOut s.tx s.pr M (keys (.node k o u l rr)) (keys l') M' r' ∧ TreeAt s w'' M' ∧ Fr s.bs w' w'') := fun w' h' => merge44 s N (.node k o u l rr) l' M k (M.L k') w' hN2 h' ia hl' hnd2.2 ba bl' ha hb.2.2.1
      have HA : Hid (∀ M1 r1, MergeOut s.tx s.pr M (keys (.node k o u l rr)) (keys l') M1 r1 → M1.L k' = M.L k' ∧ Chi s.n ((M1.setL k' r1).L k') ∧ Chi s.n ((M1.setL k' r1).R k') ∧ MergeOut s.tx s.pr M (keys (.node k o u l rr)) (keys (.node k' o' u' l' rr')) ((M1.setL k' r1).setT k' (pullT s.tx (M1.setL k' r1) k')) (k' : Int)) := by
        intro M1 r1 hm
        refine ⟨(hm.off k' hnd2.1).1, ?_, ?_, merge_b ib hnd hb hpa hm⟩
        · show Chi s.n (upd M1.L k' r1 k')
          rw [upd_same]; exact hm.chi ba bl'
        · show Chi s.n (M1.R k')
          rw [(hm.off k' hnd2.1).2.1]; exact hr'.chi br'
      clear hN2 hnd2 hpa hN hnd ba bb ha hb ia ib hl hr hl' hr' bl br bl' br'
      go_enter Try.func44, Try.ntmps44
      go_wp2_with fail
      go_quiet (fail)
      go_wp2_with fail
      go_region_with ((go_at_call 44; refine Calls.mono (IH.out _ ((h.drewN _).drew)) ?_; rintro e w1 ⟨M1, r1, rfl, hso, h1, F1⟩; have q1 : w1.cell? ⟨s.bt, 1, none⟩ = some (.slice (some ⟨s.bn, 0, none⟩) s.n s.cn) := h1.head.cell (by omega); have q2 : w1.cell? ⟨s.bn, k' * 7 + 5, none⟩ = some (.int .i32 (M.L k')) := (h1.cellN hk' (by omega)).trans (by rw [← (HA.out M1 r1 hso).1]; rfl); have q3 : w1.frozen? ⟨s.bn, k' * 7 + 5, none⟩ = false := h1.frozenN _))
      all_goals
       have F1' : Fr s.bs w w1 := ((Fr.refl _ w).drewN _).drew.trans F1
       have h2 := h1.setL hk' r1
       obtain ⟨_, cL, cR, HO⟩ := HA.out M1 r1 hso
       have C2 : Hid _ := pull43 s (M1.setL k' r1) k' _ h2 hk' cL cR
       have F2 : Fr s.bs w (w1.setCell ⟨s.bn, k' * 7 + 5, none⟩ (.int .i32 r1)) := F1'.setCell (.inl (by simp [Sh.bs])) _
       have HOH : Hid _ := HO
       clear h1 h2 hso cL cR HO q1 q2 q3 c1 n4 n6 m4 m5 F1 F1' IH HA
       go_wp2_with fail
       refine Calls.mono C2.out ?_
       rintro e w2 ⟨rfl, h3, F3⟩
       clear C2
       go_wp2_with fail
       go_ret
       exact ⟨_, _, rfl, HOH.out, h3, F2.trans F3⟩

end Go.Proofs.Qxb6613402a
