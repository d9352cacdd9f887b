import Derived.Test.Qxb6613402aW19
namespace Go.Proofs.Qxb6613402a
open Go.RowKit
open Go.Deep (BT)

theorem WoOut.off {x p : Nat → Int} {M M' : Mem} {t : BT Unit} {m : Nat} {r' : Int} (h : WoOut x p M t m M' r') : SameOff (keys t) M M' := by
  obtain ⟨_, _, _, _, _, _, _, h⟩ := h
  exact h
theorem WoOut.chi {x p : Nat → Int} {M M' : Mem} {t : BT Unit} {m n : Nat} {r' : Int} (h : WoOut x p M t m M' r') (hb : ∀ j ∈ keys t, j < n) : Chi n r' := by
  obtain ⟨t', A, B, h1, h2, h3, _⟩ := h
  refine h1.chi (fun j hj => ?_)
  rw [h3] at hj
  simp only [List.mem_append] at hj
  rcases hj with hj | hj
  · exact hb j (by rw [h2]; simp [hj])
  · exact hb j (by rw [h2]; simp [hj])

set_option maxRecDepth 100000 in
set_option maxHeartbeats 2000000 in
theorem without40 (s : Sh) (m : Nat) : ∀ (t : BT Unit) (M : Mem) (r : Int) (w : World), TreeAt s w M → In s.tx M t r → Srt s.fi (keys t) → (∀ j ∈ keys t, j < s.n) → Heap s.pr t → m ∈ keys t →
    Calls Try.prog 40 #[.pointer (some ⟨s.bt, 0, none⟩), .int .i32 r, .int .i64 (s.fi m)] w fun e w' =>
      ∃ M' r', e = .returned (.int .i32 r') ∧ WoOut s.tx s.pr M t m M' r' ∧ TreeAt s w' M' ∧ Fr s.bs w w'
  | .nil, M, r, w, h, hin, hs, hb, hh, hm => by simp [keys] at hm
  | .node k o u l rr, M, r, w, h, hin, hs, hb, hh, hm => by
    have hin' := hin
    obtain ⟨rfl, hl, hr, _⟩ := hin'
    have hk : k < s.n := hb k (by simp [keys])
    have hn := h.hn
    have pts := parts hs
    have c1 : w.cell? ⟨s.bt, 1, none⟩ = some (.slice (some ⟨s.bn, 0, none⟩) s.n s.cn) := h.head.cell (by omega)
    have n1 : w.cell? ⟨s.bn, k * 7 + 1, none⟩ = some (.int .i64 (s.fi k)) := h.cellN hk (by omega)
    have n5 : w.cell? ⟨s.bn, k * 7 + 5, none⟩ = some (.int .i32 (M.L k)) := h.cellN hk (by omega)
    have n6 : w.cell? ⟨s.bn, k * 7 + 6, none⟩ = some (.int .i32 (M.R k)) := h.cellN hk (by omega)
    have bl : ∀ j ∈ keys l, j < s.n := fun j hj => hb j (by simp [keys, hj])
    have br : ∀ j ∈ keys rr, j < s.n := fun j hj => hb j (by simp [keys, hj])
    have hm' : m ∈ keys l ∨ m = k ∨ m ∈ keys rr := by simpa [keys] using hm
    rcases hm' with hml | hmk | hmr
    · have hlt : s.fi m < s.fi k := pts.2.2.1 m hml
      have IH : Hid _ := without40 s m l M (M.L k) w h hl pts.1 bl hh.2.2.1 hml
      go_enter Try.func40, Try.ntmps40
      go_wp2_with fail
      refine Calls.mono IH.out ?_
      rintro e w1 ⟨M1, ra, rfl, hso, h1, F1⟩
      clear IH
      obtain ⟨v5, d5⟩ : ∃ v, w1.cell? ⟨s.bn, k * 7 + 5, none⟩ = some v := ⟨_, h1.cellN hk (by omega)⟩
      have d7 : w1.frozen? ⟨s.bn, k * 7 + 5, none⟩ = false := h1.frozenN _
      have h2 := h1.setL hk ra
      have cR : Chi s.n ((M1.setL k ra).R k) := by
        show Chi s.n (M1.R k)
        rw [(hso.off k pts.2.2.2.2.1).2.1]; exact hr.chi br
      have cL : Chi s.n ((M1.setL k ra).L k) := by
        show Chi s.n (upd M1.L k ra k)
        rw [upd_same]; exact hso.chi bl
      have C2 : Hid _ := pull43 s (M1.setL k ra) k _ h2 hk cL cR
      have HO : WoOut s.tx s.pr M (.node k o u l rr) m ((M1.setL k ra).setT k (pullT s.tx (M1.setL k ra) k)) (k : Int) := wo_left hin hs hh hso
      have HOH : Hid _ := HO
      have F2 : Fr s.bs w (w1.setCell ⟨s.bn, k * 7 + 5, none⟩ (.int .i32 ra)) := F1.setCell (.inl (by simp [Sh.bs])) _
      clear h1 h2 hso cL cR pts hs hin hl hr n1 n5 n6 c1 hh F1 HO
      go_wp2_with fail
      refine Calls.mono C2.out ?_
      rintro e w2 ⟨rfl, h3, F3⟩
      clear C2
      go_wp2_with fail
      go_ret
      exact ⟨_, _, rfl, HOH.out, h3, F2.trans F3⟩
    · subst hmk
      have hnd : (keys l ++ keys rr).Nodup := by
        have h1 := hs.nodup
        rw [keys] at h1
        have h2 := List.nodup_append.1 h1
        exact List.nodup_append.2 ⟨h2.1, (List.nodup_cons.1 h2.2.1).2, fun a ha b hb => h2.2.2 a ha b (by simp [hb])⟩
      have hk2 : m ∉ keys l ++ keys rr := by simp [pts.2.2.2.2.1, pts.2.2.2.2.2.1]
      have IH : Hid (∀ w', TreeAt s w' M → Calls Try.prog 44 #[.pointer (some ⟨s.bt, 0, none⟩), .int .i32 (M.L m), .int .i32 (M.R m)] w' fun e w'' =>
          ∃ M' r', e = .returned (.int .i32 r') ∧ MergeOut s.tx s.pr M (keys l) (keys rr) M' r' ∧ TreeAt s w'' M' ∧ Fr s.bs w' w'') := fun w' h' => merge44 s _ l rr M (M.L m) (M.R m) w' (Nat.le_refl _) h' hl hr hnd bl br hh.2.2.1 hh.2.2.2
      have HA : Hid (∀ M1 r1, MergeOut s.tx s.pr M (keys l) (keys rr) M1 r1 → M1.L m = M.L m ∧ M1.R m = M.R m ∧ WoOut s.tx s.pr M (.node m o u l rr) m M1 r1) := by
        intro M1 r1 hm
        exact ⟨(hm.off m hk2).1, (hm.off m hk2).2.1, wo_here hm⟩
      clear hnd hk2 pts hl hr hin hs hh hm bl br hb
      go_enter Try.func40, Try.ntmps40
      go_wp2_with fail
      go_region_held (fun w' => w'.cell? ⟨s.bn, m * 7 + 5, none⟩ = some (.int .i32 (M.L m)) ∧ w'.cell? ⟨s.bn, m * 7 + 6, none⟩ = some (.int .i32 (M.R m))) (go_keep)
        ((go_at_call 44; refine Calls.mono (IH.out _ h.drew) ?_; rintro e w1 ⟨M1, r1, rfl, hso, h1, F1⟩; have q1 : w1.cell? ⟨s.bn, m * 7 + 5, none⟩ = some (.int .i32 (M.L m)) := (h1.cellN hk (by omega)).trans (by rw [← (HA.out M1 r1 hso).1]; rfl); have q2 : w1.cell? ⟨s.bn, m * 7 + 6, none⟩ = some (.int .i32 (M.R m)) := (h1.cellN hk (by omega)).trans (by rw [← (HA.out M1 r1 hso).2.1]; rfl)))
      have F1' : Fr s.bs w w1 := (Fr.refl _ w).drew.trans F1
      clear q1 q2
      go_wp2_with fail
      go_ret
      exact ⟨_, _, rfl, (HA.out M1 r1 hso).2.2, h1, F1'⟩
    · have hgt : s.fi k < s.fi m := pts.2.2.2.1 m hmr
      have hlt : ¬ s.fi m < s.fi k := by omega
      have IH : Hid _ := without40 s m rr M (M.R k) w h hr pts.2.1 br hh.2.2.2 hmr
      go_enter Try.func40, Try.ntmps40
      go_wp2_with fail
      refine Calls.mono IH.out ?_
      rintro e w1 ⟨M1, ra, rfl, hso, h1, F1⟩
      clear IH
      obtain ⟨v5, d5⟩ : ∃ v, w1.cell? ⟨s.bn, k * 7 + 6, none⟩ = some v := ⟨_, h1.cellN hk (by omega)⟩
      have d7 : w1.frozen? ⟨s.bn, k * 7 + 6, none⟩ = false := h1.frozenN _
      have h2 := h1.setR hk ra
      have cL : Chi s.n ((M1.setR k ra).L k) := by
        show Chi s.n (M1.L k)
        rw [(hso.off k pts.2.2.2.2.2.1).1]; exact hl.chi bl
      have cR : Chi s.n ((M1.setR k ra).R k) := by
        show Chi s.n (upd M1.R k ra k)
        rw [upd_same]; exact hso.chi br
      have C2 : Hid _ := pull43 s (M1.setR k ra) k _ h2 hk cL cR
      have HO : WoOut s.tx s.pr M (.node k o u l rr) m ((M1.setR k ra).setT k (pullT s.tx (M1.setR k ra) k)) (k : Int) := wo_right hin hs hh hso
      have HOH : Hid _ := HO
      have F2 : Fr s.bs w (w1.setCell ⟨s.bn, k * 7 + 6, none⟩ (.int .i32 ra)) := F1.setCell (.inl (by simp [Sh.bs])) _
      clear h1 h2 hso cL cR pts hs hin hl hr n1 n5 n6 c1 hh F1 HO
      go_wp2_with fail
      refine Calls.mono C2.out ?_
      rintro e w2 ⟨rfl, h3, F3⟩
      clear C2
      go_wp2_with fail
      go_ret
      exact ⟨_, _, rfl, HOH.out, h3, F2.trans F3⟩

theorem zwithout32 (s : Sh) (m : Nat) (t : BT Unit) (M : Mem) (r : Int) (w : World) (h : TreeAt s w M) (hin : In s.tx M t r) (hs : Srt s.fi (keys t)) (hb : ∀ j ∈ keys t, j < s.n) (hh : Heap s.pr t) (hm : m ∈ keys t) :
    Calls Try.prog 32 #[.pointer (some ⟨s.bt, 0, none⟩), .int .i32 r, .int .i64 (s.fi m)] w fun e w' =>
      ∃ M' r', e = .returned (.int .i32 r') ∧ WoOut s.tx s.pr M t m M' r' ∧ TreeAt s w' M' ∧ Fr s.bs w w' := by
  go_enter Try.func32, Try.ntmps32
  go_wp2_with fail
  refine Calls.mono (without40 s m t M r w h hin hs hb hh hm) ?_
  rintro e w1 ⟨M1, ra, rfl, hso, h1, F1⟩
  go_wp2_with fail
  go_ret
  exact ⟨_, _, rfl, hso, h1, F1⟩

end Go.Proofs.Qxb6613402a
