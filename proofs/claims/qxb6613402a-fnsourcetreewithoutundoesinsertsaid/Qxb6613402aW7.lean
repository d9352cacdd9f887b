import Derived.Test.Qxb6613402aTAt
import Derived.Deep.QuietTactic
import Derived.BigQuiet
namespace Go.Proofs.Qxb6613402a
open Go.RowKit
open Go.Deep (BT)

set_option maxHeartbeats 1000000 in
theorem pull43 (s : Sh) (M : Mem) (k : Nat) (w : World) (h : TreeAt s w M) (hk : k < s.n) (hL : Chi s.n (M.L k)) (hR : Chi s.n (M.R k)) :
    Calls Try.prog 43 #[.pointer (some ⟨s.bt, 0, none⟩), .int .i32 k] w fun e w' => e = .returned (.tuple #[]) ∧ TreeAt s w' (M.setT k (pullT s.tx M k)) ∧ Fr s.bs w w' := by
  have c0 : w.cell? ⟨s.bt, 0, none⟩ = some (.slice (some ⟨s.bk, 0, none⟩) 1 1) := h.head.cell (by omega)
  have c1 : w.cell? ⟨s.bt, 1, none⟩ = some (.slice (some ⟨s.bn, 0, none⟩) s.n s.cn) := h.head.cell (by omega)
  have c2 : w.cell? ⟨s.bt, 2, none⟩ = some (.slice (some ⟨s.bo, 0, none⟩) s.n s.co) := h.head.cell (by omega)
  have c3 : w.cell? ⟨s.bt, 3, none⟩ = some (.slice (some ⟨s.bp, 0, none⟩) s.n s.cp) := h.head.cell (by omega)
  have n5 : w.cell? ⟨s.bn, k * 7 + 5, none⟩ = some (.int .i32 (M.L k)) := h.cellN hk (by omega)
  have n6 : w.cell? ⟨s.bn, k * 7 + 6, none⟩ = some (.int .i32 (M.R k)) := h.cellN hk (by omega)
  have o1 : w.cell? ⟨s.bo, k, none⟩ = some (.int .i64 (s.tx k)) := h.cellO hk
  have t1 : w.cell? ⟨s.bp, k, none⟩ = some (.int .i64 (M.T k)) := h.cellT hk
  have t2 : w.frozen? ⟨s.bp, k, none⟩ = false := h.frozenT k
  have hn := h.hn
  have fin : ∀ (nq : Nat) (v : Int), v = pullT s.tx M k → TreeAt s ((w.drewN nq).setCell ⟨s.bp, k, none⟩ (.int .i64 v)) (M.setT k (pullT s.tx M k)) ∧ Fr s.bs w ((w.drewN nq).setCell ⟨s.bp, k, none⟩ (.int .i64 v)) := by
    intro nq v hv
    subst hv
    exact ⟨(h.drewN nq).setT _, ((Fr.refl _ _).drewN nq).setCell (.inl (by simp [Sh.bs])) _⟩
  have FIN : Hid _ := fin
  clear fin
  rcases hL with hL | ⟨jl, hjl, hL⟩ <;> rcases hR with hR | ⟨jr, hjr, hR⟩ <;> rw [hL] at n5 <;> rw [hR] at n6
  · have HP : Hid (s.tx k = pullT s.tx M k) := by (show _ = _; unfold pullT; simp [hL, hR])
    clear hL hR
    go_enter Try.func43, Try.ntmps43
    go_wp2
    go_quiet (fail)
    go_wp2
    refine wp_loop_rounds 2 ?_
    rw [rounds_succ]
    go_wp2
    all_goals
      rw [rounds_succ]
      go_wp2
      go_end0
      exact ⟨rfl, FIN.out _ _ HP.out⟩
  · have HP : Hid (max (s.tx k) (M.T jr) = pullT s.tx M k) := by (show _ = _; unfold pullT; simp [hL, hR])
    have tr : w.cell? ⟨s.bp, jr, none⟩ = some (.int .i64 (M.T jr)) := h.cellT hjr
    clear hL hR
    go_enter Try.func43, Try.ntmps43
    go_wp2
    go_quiet (fail)
    go_wp2
    refine wp_loop_rounds 2 ?_
    rw [rounds_succ]
    go_wp2
    all_goals
      rw [rounds_succ]
      go_wp2
      go_end0
      exact ⟨rfl, FIN.out _ _ (by rw [← HP.out]; omega)⟩
  · have HP : Hid (max (s.tx k) (M.T jl) = pullT s.tx M k) := by (show _ = _; unfold pullT; simp [hL, hR])
    have tl : w.cell? ⟨s.bp, jl, none⟩ = some (.int .i64 (M.T jl)) := h.cellT hjl
    clear hL hR
    go_enter Try.func43, Try.ntmps43
    go_wp2
    go_quiet (fail)
    go_wp2
    refine wp_loop_rounds 2 ?_
    rw [rounds_succ]
    go_wp2
    all_goals
      rw [rounds_succ]
      go_wp2
      go_end0
      exact ⟨rfl, FIN.out _ _ (by rw [← HP.out]; omega)⟩
  · have HP : Hid (max (max (s.tx k) (M.T jl)) (M.T jr) = pullT s.tx M k) := by (show _ = _; unfold pullT; simp [hL, hR])
    have tl : w.cell? ⟨s.bp, jl, none⟩ = some (.int .i64 (M.T jl)) := h.cellT hjl
    have tr : w.cell? ⟨s.bp, jr, none⟩ = some (.int .i64 (M.T jr)) := h.cellT hjr
    clear hL hR
    go_enter Try.func43, Try.ntmps43
    go_wp2
    go_quiet (fail)
    go_wp2
    refine wp_loop_rounds 2 ?_
    rw [rounds_succ]
    go_wp2
    all_goals
      rw [rounds_succ]
      go_wp2
      go_end0
      exact ⟨rfl, FIN.out _ _ (by rw [← HP.out]; omega)⟩

end Go.Proofs.Qxb6613402a
