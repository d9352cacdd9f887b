import Derived.Test.Qxb6613402aW7
namespace Go.Proofs.Qxb6613402a
open Go.RowKit
open Go.Deep (BT)

/-- A tree's root is a child's number. -/
theorem In.chi {x : Nat → Int} {M : Mem} {n : Nat} : ∀ {t : BT Unit} {r : Int}, In x M t r → (∀ j ∈ keys t, j < n) → Chi n r
  | .nil, _, h, _ => .inl h
  | .node k _ _ _ _, _, h, hb => .inr ⟨k, hb k (by simp [keys]), h.1⟩

theorem SplitOut.chi {x fi p : Nat → Int} {M M' : Mem} {t : BT Unit} {X ra rb : Int} {n : Nat} (h : SplitOut x fi p M t X M' ra rb) (hb : ∀ j ∈ keys t, j < n) : Chi n ra ∧ Chi n rb := by
  obtain ⟨a, b, ha, hb', hk, _⟩ := h
  exact ⟨ha.chi (fun j hj => hb j (by rw [← hk]; simp [hj])), hb'.chi (fun j hj => hb j (by rw [← hk]; simp [hj]))⟩

theorem SplitOut.off {x fi p : Nat → Int} {M M' : Mem} {t : BT Unit} {X ra rb : Int} (h : SplitOut x fi p M t X M' ra rb) : SameOff (keys t) M M' := by
  obtain ⟨a, b, _, _, _, _, _, _, h⟩ := h
  exact h

set_option maxHeartbeats 1000000 in
theorem split42 (s : Sh) (X : Int) : ∀ (t : BT Unit) (M : Mem) (r : Int) (w : World), TreeAt s w M → In s.tx M t r → Srt s.fi (keys t) → (∀ j ∈ keys t, j < s.n) →
    Calls Try.prog 42 #[.pointer (some ⟨s.bt, 0, none⟩), .int .i32 r, .int .i64 X] w fun e w' =>
      ∃ M' ra rb, e = .returned (.tuple #[.int .i32 ra, .int .i32 rb]) ∧ SplitOut s.tx s.fi s.pr M t X M' ra rb ∧ TreeAt s w' M' ∧ Fr s.bs w w'
  | .nil, M, r, w, h, hin, hs, hb => by
    obtain rfl : r = -1 := hin
    go_enter Try.func42, Try.ntmps42
    go_wp2_with fail
    go_ret2
    exact ⟨M, -1, -1, rfl, split_nil _ _ _ _ _, h, Fr.refl _ _⟩
  | .node k o u l rr, M, r, w, h, hin, hs, hb => by
    have hin' := hin
    obtain ⟨rfl, hl, hr, _⟩ := hin'
    have hk : k < s.n := hb k (by simp [keys])
    have hn := h.hn
    have pts := parts hs
    have c1 : w.cell? ⟨s.bt, 1, none⟩ = some (.slice (some ⟨s.bn, 0, none⟩) s.n s.cn) := h.head.cell (by omega)
    have n1 : w.cell? ⟨s.bn, k * 7 + 1, none⟩ = some (.int .i64 (s.fi k)) := h.cellN hk (by omega)
    have n5 : w.cell? ⟨s.bn, k * 7 + 5, none⟩ = some (.int .i32 (M.L k)) := h.cellN hk (by omega)
    have n6 : w.cell? ⟨s.bn, k * 7 + 6, none⟩ = some (.int .i32 (M.R k)) := h.cellN hk (by omega)
    have bl : ∀ j ∈ keys l, j < s.n := fun j hj => hb j (by simp [keys, hj])
    have br : ∀ j ∈ keys rr, j < s.n := fun j hj => hb j (by simp [keys, hj])
    by_cases hlt : s.fi k < X
    · have IH : Hid _ := split42 s X rr M (M.R k) w h hr pts.2.1 br
      go_enter Try.func42, Try.ntmps42
      go_wp2_with fail
      refine Calls.mono IH.out ?_
      rintro e w1 ⟨M1, ra, rb, rfl, hso, h1, F1⟩
      clear IH
      obtain ⟨v6, d6⟩ : ∃ v, w1.cell? ⟨s.bn, k * 7 + 6, none⟩ = some v := ⟨_, h1.cellN hk (by omega)⟩
      have d7 : w1.frozen? ⟨s.bn, k * 7 + 6, none⟩ = false := h1.frozenN _
      have h2 := h1.setR hk ra
      have cL : Chi s.n ((M1.setR k ra).L k) := by
        show Chi s.n (M1.L k)
        rw [(hso.off k pts.2.2.2.2.2.1).1]; exact hl.chi bl
      have cR : Chi s.n ((M1.setR k ra).R k) := by
        show Chi s.n (upd M1.R k ra k)
        rw [upd_same]; exact (hso.chi br).1
      have C2 : Hid _ := pull43 s (M1.setR k ra) k _ h2 hk cL cR
      have HO : SplitOut s.tx s.fi s.pr M (.node k o u l rr) X ((M1.setR k ra).setT k (pullT s.tx (M1.setR k ra) k)) (k : Int) rb := split_right hin hs hlt hso
      have F2 : Fr s.bs w (w1.setCell ⟨s.bn, k * 7 + 6, none⟩ (.int .i32 ra)) := F1.setCell (.inl (by simp [Sh.bs])) _
      clear h1 h2 hso cL cR pts hs hin hl hr n1 n5 n6 c1
      go_wp2_with fail
      refine Calls.mono C2.out ?_
      rintro e w2 ⟨rfl, h3, F3⟩
      clear C2
      go_wp2_with fail
      go_ret2
      exact ⟨_, _, _, rfl, HO, h3, F2.trans F3⟩
    · have IH : Hid _ := split42 s X l M (M.L k) w h hl pts.1 bl
      go_enter Try.func42, Try.ntmps42
      go_wp2_with fail
      refine Calls.mono IH.out ?_
      rintro e w1 ⟨M1, ra, rb, rfl, hso, h1, F1⟩
      clear IH
      obtain ⟨v6, d6⟩ : ∃ v, w1.cell? ⟨s.bn, k * 7 + 5, none⟩ = some v := ⟨_, h1.cellN hk (by omega)⟩
      have d7 : w1.frozen? ⟨s.bn, k * 7 + 5, none⟩ = false := h1.frozenN _
      have h2 := h1.setL hk rb
      have cR : Chi s.n ((M1.setL k rb).R k) := by
        show Chi s.n (M1.R k)
        rw [(hso.off k pts.2.2.2.2.1).2.1]; exact hr.chi br
      have cL : Chi s.n ((M1.setL k rb).L k) := by
        show Chi s.n (upd M1.L k rb k)
        rw [upd_same]; exact (hso.chi bl).2
      have C2 : Hid _ := pull43 s (M1.setL k rb) k _ h2 hk cL cR
      have HO : SplitOut s.tx s.fi s.pr M (.node k o u l rr) X ((M1.setL k rb).setT k (pullT s.tx (M1.setL k rb) k)) ra (k : Int) := split_left hin hs (by omega) hso
      have F2 : Fr s.bs w (w1.setCell ⟨s.bn, k * 7 + 5, none⟩ (.int .i32 rb)) := F1.setCell (.inl (by simp [Sh.bs])) _
      clear h1 h2 hso cL cR pts hs hin hl hr n1 n5 n6 c1
      go_wp2_with fail
      refine Calls.mono C2.out ?_
      rintro e w2 ⟨rfl, h3, F3⟩
      clear C2
      go_wp2_with fail
      go_ret2
      exact ⟨_, _, _, rfl, HO, h3, F2.trans F3⟩

end Go.Proofs.Qxb6613402a
