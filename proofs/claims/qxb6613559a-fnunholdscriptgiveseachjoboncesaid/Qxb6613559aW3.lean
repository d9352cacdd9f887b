import Derived.Test.Qxb6613559aW2
namespace Go.Proofs.Qxb6613559a
open Go.RowKit

theorem neq_func (w : World) : (binOp .neq 1 (.func (.func 15) #[] #[]) .nilFunc).run Try.prog w = .ok (.bool true) w := by kernel_rfl
theorem neq_nil (w : World) : (binOp .neq 1 .nilFunc .nilFunc).run Try.prog w = .ok (.bool false) w := by kernel_rfl

theorem gave9 (w : World) (br bq n i : Nat) (R H B : Nat → Bool) (h : RoundAt w br bq n R H B) (hi : i < n) :
    Calls Try.prog 9 #[.pointer (some ⟨br, 0, none⟩), .int .i64 i] w fun e w' => e = .returned (.bool (H i)) ∧ RoundAt w' br bq n R (updB H i false) (updB B i false) ∧ Fr [br, bq] w w' := by
  have hn := h.hn
  have hf := neq_func
  have hf' := neq_nil
  have C : Hid _ := unhold16 w br bq n i R H B h hi
  go_enter Try.func9, Try.ntmps9
  go_wp2_with fail
  refine Calls.mono C.out ?_
  rintro e w1 ⟨rfl, h1, F1⟩
  clear C
  cases hH : H i
  · simp only [jobV, Bool.false_eq_true, if_false]
    go_wp2_with fail
    go_ret
    exact ⟨by rw [hH]; rfl, h1, F1⟩
  · simp only [jobV, if_true]
    go_wp2_with fail
    go_ret
    exact ⟨by rw [hH]; rfl, h1, F1⟩

theorem held10 (w : World) (br bq n i : Nat) (R H B : Nat → Bool) (h : RoundAt w br bq n R H B) (hi : i < n) :
    Calls Try.prog 10 #[.pointer (some ⟨br, 0, none⟩), .int .i64 i] w fun e w' => e = .returned (.bool (H i)) ∧ w' = w := by
  obtain ⟨f, r1, e1, e2⟩ := h.head
  obtain ⟨g, r2, e3⟩ := h.reqs
  have hn := h.hn
  have q0 : w.cell? ⟨br, 13, none⟩ = some (.slice (some ⟨bq, 0, none⟩) n n) := by rw [r1.cell (by omega), e2]
  have hf := neq_func
  have hf' := neq_nil
  have j1 : w.cell? ⟨bq, i * 4 + 1, none⟩ = some (jobV (H i)) := by rw [r2.cell (by omega), (e3 i hi).2.1]
  have hik : (i : Int) < (n : Int) := by omega
  clear r1 r2 e1 e2 e3 h
  cases hH : H i
  · rw [hH] at j1
    simp only [jobV, Bool.false_eq_true, if_false] at j1
    go_enter Try.func10, Try.ntmps10
    go_wp2_with fail
    go_ret
    exact ⟨rfl, rfl⟩
  · rw [hH] at j1
    simp only [jobV, if_true] at j1
    go_enter Try.func10, Try.ntmps10
    go_wp2_with fail
    go_ret
    exact ⟨rfl, rfl⟩

theorem behind11 (w : World) (br bq n i : Nat) (R H B : Nat → Bool) (h : RoundAt w br bq n R H B) (hi : i < n) :
    Calls Try.prog 11 #[.pointer (some ⟨br, 0, none⟩), .int .i64 i] w fun e w' => e = .returned (.bool (B i)) ∧ w' = w := by
  obtain ⟨f, r1, e1, e2⟩ := h.head
  obtain ⟨g, r2, e3⟩ := h.reqs
  have hn := h.hn
  have q0 : w.cell? ⟨br, 13, none⟩ = some (.slice (some ⟨bq, 0, none⟩) n n) := by rw [r1.cell (by omega), e2]
  have j1 : w.cell? ⟨bq, i * 4 + 2, none⟩ = some (g (i * 4 + 2)) := r2.cell (by omega)
  have j2 := (e3 i hi).2.2
  have hik : (i : Int) < (n : Int) := by omega
  clear r1 r2 e1 e2 e3 h
  cases hB : B i
  · rw [hB] at j2
    simp only [ptrV, Bool.false_eq_true, if_false] at j2
    rw [j2] at j1
    clear j2
    go_enter Try.func11, Try.ntmps11
    go_wp2_with fail
    go_ret
    exact ⟨rfl, rfl⟩
  · rw [hB] at j2
    simp only [ptrV, if_true] at j2
    obtain ⟨ad, j2⟩ := j2
    rw [j2] at j1
    clear j2
    go_enter Try.func11, Try.ntmps11
    go_wp2_with fail
    go_ret
    exact ⟨rfl, rfl⟩

theorem running12 (w : World) (br bq n i : Nat) (R H B : Nat → Bool) (h : RoundAt w br bq n R H B) (hi : i < n) :
    Calls Try.prog 12 #[.pointer (some ⟨br, 0, none⟩), .int .i64 i] w fun e w' => e = .returned (.bool (R i)) ∧ w' = w := by
  obtain ⟨f, r1, e1, e2⟩ := h.head
  obtain ⟨g, r2, e3⟩ := h.reqs
  have hn := h.hn
  have q0 : w.cell? ⟨br, 13, none⟩ = some (.slice (some ⟨bq, 0, none⟩) n n) := by rw [r1.cell (by omega), e2]
  have j1 : w.cell? ⟨bq, i * 4, none⟩ = some (.bool (R i)) := by rw [r2.cell (by omega), (e3 i hi).1]
  have hik : (i : Int) < (n : Int) := by omega
  clear r1 r2 e1 e2 e3 h
  go_enter Try.func12, Try.ntmps12
  go_wp2_with fail
  go_ret
  exact ⟨rfl, rfl⟩

theorem bytes7 (a0 : Option Addr) (l0 c0 : Nat) (x : Int) (w : World) (h0 : l0 ≤ maxLen) :
    Calls Try.prog 7 #[.slice a0 l0 c0, .int .i64 x] w fun e w' => (∃ r : Bool, e = .returned (.bool r)) ∧ w' = w := by
  unfold maxLen at h0
  go_enter Try.func7, Try.ntmps7
  go_wp2
  all_goals (go_ret; exact ⟨⟨_, rfl⟩, rfl⟩)

theorem bytes13 (a0 a1 : Option Addr) (l0 c0 l1 c1 : Nat) (w : World) (h0 : l0 ≤ maxLen) (h1 : l1 ≤ maxLen) :
    Calls Try.prog 13 #[.slice a0 l0 c0, .slice a1 l1 c1] w fun e w' => (∃ r : Bool, e = .returned (.bool r)) ∧ w' = w := by
  unfold maxLen at h0 h1
  go_enter Try.func13, Try.ntmps13
  go_wp2
  all_goals (go_ret; exact ⟨⟨_, rfl⟩, rfl⟩)

end Go.Proofs.Qxb6613559a
