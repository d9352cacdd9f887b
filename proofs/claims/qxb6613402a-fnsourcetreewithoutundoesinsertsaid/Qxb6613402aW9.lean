import Derived.Test.Qxb6613402aW8
namespace Go.Proofs.Qxb6613402a
open Go.RowKit
open Go.Deep (BT)

theorem InsOut.off {x fi p : Nat → Int} {M M' : Mem} {t : BT Unit} {m : Nat} {r' : Int} (h : InsOut x fi p M t m M' r') : SameOff (m :: keys t) M M' := by
  obtain ⟨_, _, _, _, _, _, _, _, _, h⟩ := h
  exact h
theorem InsOut.chi {x fi p : Nat → Int} {M M' : Mem} {t : BT Unit} {m n : Nat} {r' : Int} (h : InsOut x fi p M t m M' r') (hb : ∀ j ∈ keys t, j < n) (hm : m < n) : Chi n r' := by
  obtain ⟨t', A, B, h1, h2, h3, _⟩ := h
  refine h1.chi (fun j hj => ?_)
  rw [h3] at hj
  simp only [List.mem_append, List.mem_cons] at hj
  rcases hj with hj | rfl | hj
  · exact hb j (by rw [h2]; simp [hj])
  · exact hm
  · exact hb j (by rw [h2]; simp [hj])

set_option maxRecDepth 100000 in
set_option maxHeartbeats 2000000 in
theorem insert38 (s : Sh) (m : Nat) (hm : m < s.n) : ∀ (t : BT Unit) (M : Mem) (r : Int) (w : World), TreeAt s w M → In s.tx M t r → Srt s.fi (keys t) → (∀ j ∈ keys t, j < s.n) → Heap s.pr t → (∀ j ∈ keys t, s.fi j ≠ s.fi m) → Alone s.tx M m →
    Calls Try.prog 38 #[.pointer (some ⟨s.bt, 0, none⟩), .int .i32 r, .int .i32 m] w fun e w' =>
      ∃ M' r', e = .returned (.int .i32 r') ∧ InsOut s.tx s.fi s.pr M t m M' r' ∧ TreeAt s w' M' ∧ Fr s.bs w w'
  | .nil, M, r, w, h, hin, hs, hb, hh, hd, ha => by
    obtain rfl : r = -1 := hin
    go_enter Try.func38, Try.ntmps38
    go_wp2_with fail
    go_ret
    exact ⟨M, _, rfl, ins_nil ha, h, Fr.refl _ _⟩
  | .node k o u l rr, M, r, w, h, hin, hs, hb, hh, hd, ha => by
    have hin' := hin
    obtain ⟨rfl, hl, hr, _⟩ := hin'
    have hk : k < s.n := hb k (by simp [keys])
    have hn := h.hn
    have pts := parts hs
    have c1 : w.cell? ⟨s.bt, 1, none⟩ = some (.slice (some ⟨s.bn, 0, none⟩) s.n s.cn) := h.head.cell (by omega)
    have n1 : w.cell? ⟨s.bn, k * 7 + 1, none⟩ = some (.int .i64 (s.fi k)) := h.cellN hk (by omega)
    have n4 : w.cell? ⟨s.bn, k * 7 + 4, none⟩ = some (.int .u64 (s.pr k)) := h.cellN hk (by omega)
    have n5 : w.cell? ⟨s.bn, k * 7 + 5, none⟩ = some (.int .i32 (M.L k)) := h.cellN hk (by omega)
    have n6 : w.cell? ⟨s.bn, k * 7 + 6, none⟩ = some (.int .i32 (M.R k)) := h.cellN hk (by omega)
    have m1 : w.cell? ⟨s.bn, m * 7 + 1, none⟩ = some (.int .i64 (s.fi m)) := h.cellN hm (by omega)
    have m4 : w.cell? ⟨s.bn, m * 7 + 4, none⟩ = some (.int .u64 (s.pr m)) := h.cellN hm (by omega)
    have bl : ∀ j ∈ keys l, j < s.n := fun j hj => hb j (by simp [keys, hj])
    have br : ∀ j ∈ keys rr, j < s.n := fun j hj => hb j (by simp [keys, hj])
    by_cases hp : s.pr k < s.pr m
    · go_enter Try.func38, Try.ntmps38
      go_wp2_with fail
      go_quiet (fail)
      go_wp2_with fail
      go_quiet (fail)
      go_wp2_with fail
      refine Calls.mono (split42 s (s.fi m) (.node k o u l rr) M k _ (h.drewN _) hin hs hb) ?_
      rintro e w1 ⟨M1, ra, rb, rfl, hso, h1, F1⟩
      have F1' : Fr s.bs w w1 := ((Fr.refl _ w).drewN _).trans F1
      obtain ⟨v5, d5⟩ : ∃ v, w1.cell? ⟨s.bn, m * 7 + 5, none⟩ = some v := ⟨_, h1.cellN hm (by omega)⟩
      obtain ⟨v6, d6⟩ : ∃ v, w1.cell? ⟨s.bn, m * 7 + 6, none⟩ = some v := ⟨_, h1.cellN hm (by omega)⟩
      have d7 : w1.frozen? ⟨s.bn, m * 7 + 5, none⟩ = false := h1.frozenN _
      have d8 : w1.frozen? ⟨s.bn, m * 7 + 6, none⟩ = false := h1.frozenN _
      have h2 := (h1.setL hm ra).setR hm rb
      have hchi := hso.chi hb
      have cL : Chi s.n (((M1.setL m ra).setR m rb).L m) := by
        show Chi s.n (upd M1.L m ra m)
        rw [upd_same]; exact hchi.1
      have cR : Chi s.n (((M1.setL m ra).setR m rb).R m) := by
        show Chi s.n (upd M1.R m rb m)
        rw [upd_same]; exact hchi.2
      have C2 : Hid _ := pull43 s ((M1.setL m ra).setR m rb) m _ h2 hm cL cR
      have HO : InsOut s.tx s.fi s.pr M (.node k o u l rr) m (((M1.setL m ra).setR m rb).setT m (pullT s.tx ((M1.setL m ra).setR m rb) m)) (m : Int) := ins_top hd hh hp hso
      have F2 : Fr s.bs w ((w1.setCell ⟨s.bn, m * 7 + 5, none⟩ (.int .i32 ra)).setCell ⟨s.bn, m * 7 + 6, none⟩ (.int .i32 rb)) := (F1'.setCell (.inl (by simp [Sh.bs])) _).setCell (.inl (by simp [Sh.bs])) _
      clear h1 h2 hso cL cR pts hs hin hl hr n1 n4 n5 n6 c1 m1 m4 hd hh ha hchi F1 F1'
      go_wp2_with fail
      refine Calls.mono C2.out ?_
      rintro e w2 ⟨rfl, h3, F3⟩
      clear C2
      go_wp2_with fail
      go_ret
      exact ⟨_, _, rfl, HO, h3, F2.trans F3⟩
    · have hd' : decide (s.pr k < s.pr m) = false := by simpa using hp
      by_cases hlt : s.fi m < s.fi k
      · go_enter Try.func38, Try.ntmps38
        go_wp2_with fail
        go_quiet (fail)
        go_wp2_with fail
        go_quiet (fail)
        go_wp2_with fail
        go_quiet (fail)
        go_wp2_with fail
        refine Calls.mono (insert38 s m hm l M (M.L k) _ (h.drewN _) hl pts.1 bl hh.2.2.1 (fun j hj => hd j (by simp [keys, hj])) ha) ?_
        rintro e w1 ⟨M1, ra, rfl, hso, h1, F1⟩
        have F1' : Fr s.bs w w1 := ((Fr.refl _ w).drewN _).trans F1
        obtain ⟨v5, d5⟩ : ∃ v, w1.cell? ⟨s.bn, k * 7 + 5, none⟩ = some v := ⟨_, h1.cellN hk (by omega)⟩
        have d7 : w1.frozen? ⟨s.bn, k * 7 + 5, none⟩ = false := h1.frozenN _
        have h2 := h1.setL hk ra
        have hkm : k ≠ m := fun e => hd k (by simp [keys]) (by rw [e])
        have cR : Chi s.n ((M1.setL k ra).R k) := by
          show Chi s.n (M1.R k)
          rw [(hso.off k (by simp [hkm, pts.2.2.2.2.1])).2.1]; exact hr.chi br
        have cL : Chi s.n ((M1.setL k ra).L k) := by
          show Chi s.n (upd M1.L k ra k)
          rw [upd_same]; exact hso.chi bl hm
        have C2 : Hid _ := pull43 s (M1.setL k ra) k _ h2 hk cL cR
        have HO : InsOut s.tx s.fi s.pr M (.node k o u l rr) m ((M1.setL k ra).setT k (pullT s.tx (M1.setL k ra) k)) (k : Int) := ins_left hin hs hd hh (by omega) hlt hso
        have F2 : Fr s.bs w (w1.setCell ⟨s.bn, k * 7 + 5, none⟩ (.int .i32 ra)) := F1'.setCell (.inl (by simp [Sh.bs])) _
        clear h1 h2 hso cL cR pts hs hin hl hr n1 n4 n5 n6 c1 m1 m4 hd hh ha F1 F1' hkm
        go_wp2_with fail
        refine Calls.mono C2.out ?_
        rintro e w2 ⟨rfl, h3, F3⟩
        clear C2
        go_wp2_with fail
        go_ret
        exact ⟨_, _, rfl, HO, h3, F2.trans F3⟩
      · have hd2 : decide (s.fi m < s.fi k) = false := by simpa using hlt
        go_enter Try.func38, Try.ntmps38
        go_wp2_with fail
        go_quiet (fail)
        go_wp2_with fail
        go_quiet (fail)
        go_wp2_with fail
        go_quiet (fail)
        go_wp2_with fail
        refine Calls.mono (insert38 s m hm rr M (M.R k) _ (h.drewN _) hr pts.2.1 br hh.2.2.2 (fun j hj => hd j (by simp [keys, hj])) ha) ?_
        rintro e w1 ⟨M1, ra, rfl, hso, h1, F1⟩
        have F1' : Fr s.bs w w1 := ((Fr.refl _ w).drewN _).trans F1
        obtain ⟨v5, d5⟩ : ∃ v, w1.cell? ⟨s.bn, k * 7 + 6, none⟩ = some v := ⟨_, h1.cellN hk (by omega)⟩
        have d7 : w1.frozen? ⟨s.bn, k * 7 + 6, none⟩ = false := h1.frozenN _
        have h2 := h1.setR hk ra
        have hkm : k ≠ m := fun e => hd k (by simp [keys]) (by rw [e])
        have cL : Chi s.n ((M1.setR k ra).L k) := by
          show Chi s.n (M1.L k)
          rw [(hso.off k (by simp [hkm, pts.2.2.2.2.2.1])).1]; exact hl.chi bl
        have cR : Chi s.n ((M1.setR k ra).R k) := by
          show Chi s.n (upd M1.R k ra k)
          rw [upd_same]; exact hso.chi br hm
        have C2 : Hid _ := pull43 s (M1.setR k ra) k _ h2 hk cL cR
        have HO : InsOut s.tx s.fi s.pr M (.node k o u l rr) m ((M1.setR k ra).setT k (pullT s.tx (M1.setR k ra) k)) (k : Int) := ins_right hin hs hd hh (by omega) (by omega) hso
        have F2 : Fr s.bs w (w1.setCell ⟨s.bn, k * 7 + 6, none⟩ (.int .i32 ra)) := F1'.setCell (.inl (by simp [Sh.bs])) _
        clear h1 h2 hso cL cR pts hs hin hl hr n1 n4 n5 n6 c1 m1 m4 hd hh ha F1 F1' hkm
        go_wp2_with fail
        refine Calls.mono C2.out ?_
        rintro e w2 ⟨rfl, h3, F3⟩
        clear C2
        go_wp2_with fail
        go_ret
        exact ⟨_, _, rfl, HO, h3, F2.trans F3⟩

theorem zinsert24 (s : Sh) (m : Nat) (hm : m < s.n) (t : BT Unit) (M : Mem) (r : Int) (w : World) (h : TreeAt s w M) (hin : In s.tx M t r) (hs : Srt s.fi (keys t)) (hb : ∀ j ∈ keys t, j < s.n) (hh : Heap s.pr t) (hd : ∀ j ∈ keys t, s.fi j ≠ s.fi m) (ha : Alone s.tx M m) :
    Calls Try.prog 24 #[.pointer (some ⟨s.bt, 0, none⟩), .int .i32 r, .int .i32 m] w fun e w' =>
      ∃ M' r', e = .returned (.int .i32 r') ∧ InsOut s.tx s.fi s.pr M t m M' r' ∧ TreeAt s w' M' ∧ Fr s.bs w w' := by
  go_enter Try.func24, Try.ntmps24
  go_wp2_with fail
  refine Calls.mono (insert38 s m hm t M r w h hin hs hb hh hd ha) ?_
  rintro e w1 ⟨M1, ra, rfl, hso, h1, F1⟩
  go_wp2_with fail
  go_ret
  exact ⟨_, _, rfl, hso, h1, F1⟩

end Go.Proofs.Qxb6613402a
