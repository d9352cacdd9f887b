import Derived.Test.Qxb6613559aLocks
import Derived.Test.Qxb6613559aKit
import Derived.WalkSpells
import Derived.WalkLawsBesides
import Derived.Laws.EntriesVeiled
import Derived.Deep.QuietTactic
import Derived.BigQuiet
import Derived.RegionTactic
import Derived.Deep.RegionHeld
namespace Go.Proofs.Qxb6613559a
open Go.RowKit Go.MuLone

/-- The job, or none. -/
def jobV (b : Bool) : Value := if b then .func (.func 15) #[] #[] else .nilFunc

/-- A pointer that is nil just if b is false. -/
def ptrV (b : Bool) (v : Value) : Prop := if b then ∃ a : Addr, v = .pointer (some a) else v = .pointer none

/-- A round at block br, its n requests at block bq: which run, which hold their job, which have a round behind. -/
structure RoundAt (w : World) (br bq n : Nat) (R H B : Nat → Bool) : Prop where
  head : ∃ f, w.rowIs br 50 15 f ∧ f 10 = .int .i32 0 ∧ f 13 = .slice (some ⟨bq, 0, none⟩) n n
  reqs : ∃ f, w.rowIs bq 53 (n * 4) f ∧ ∀ i, i < n → f (i * 4) = .bool (R i) ∧ f (i * 4 + 1) = jobV (H i) ∧ ptrV (B i) (f (i * 4 + 2))
  ne : br ≠ bq
  hn : n ≤ 4096

def updB (f : Nat → Bool) (k : Nat) (v : Bool) : Nat → Bool := fun i => if i = k then v else f i

theorem RoundAt.fr {w w' : World} {S : List Nat} {br bq n : Nat} {R H B : Nat → Bool} (h : RoundAt w br bq n R H B) (hf : Fr S w w') (h1 : br ∉ S) (h2 : bq ∉ S) : RoundAt w' br bq n R H B := by
  obtain ⟨f, r, e⟩ := h.head
  obtain ⟨g, r', e'⟩ := h.reqs
  exact ⟨⟨f, hf.row r h1, e⟩, ⟨g, hf.row r' h2, e'⟩, h.ne, h.hn⟩

/-- What unhold makes of the round. -/
theorem unheld {w : World} {br bq n i : Nat} {R H B : Nat → Bool} (h : RoundAt w br bq n R H B) :
    RoundAt (((((w.setCell ⟨br, 10, none⟩ (.int .i32 1)).setCell ⟨bq, i * 4 + 1, none⟩ .nilFunc).setCell ⟨bq, i * 4 + 2, none⟩ (.pointer none)).drew).setCell ⟨br, 10, none⟩ (.int .i32 0)) br bq n R (updB H i false) (updB B i false) ∧
    Fr [br, bq] w (((((w.setCell ⟨br, 10, none⟩ (.int .i32 1)).setCell ⟨bq, i * 4 + 1, none⟩ .nilFunc).setCell ⟨bq, i * 4 + 2, none⟩ (.pointer none)).drew).setCell ⟨br, 10, none⟩ (.int .i32 0)) := by
  obtain ⟨f, r1, e1, e2⟩ := h.head
  obtain ⟨g, r2, e3⟩ := h.reqs
  have hne := h.ne
  refine ⟨⟨⟨_, ((((r1.set 10 (.int .i32 1)).setOther (a := ⟨bq, i * 4 + 1, none⟩) hne .nilFunc).setOther (a := ⟨bq, i * 4 + 2, none⟩) hne (.pointer none)).drew).set 10 (.int .i32 0), rfl, ?_⟩, ⟨_, (((r2.setOther (a := ⟨br, 10, none⟩) hne.symm (.int .i32 1)).set (i * 4 + 1) .nilFunc).set (i * 4 + 2) (.pointer none)).drew.setOther (a := ⟨br, 10, none⟩) hne.symm (.int .i32 0), fun j hj => ?_⟩, hne, h.hn⟩, ?_⟩
  · exact e2
  · obtain ⟨a1, a2, a3⟩ := e3 j hj
    by_cases e : j = i
    · subst e
      refine ⟨?_, ?_, ?_⟩
      · rw [if_neg (by omega), if_neg (by omega)]; exact a1
      · rw [if_neg (by omega), if_pos rfl]; simp [updB, jobV]
      · rw [if_pos rfl]; simp [updB, ptrV]
    · refine ⟨?_, ?_, ?_⟩
      · rw [if_neg (by omega), if_neg (by omega)]; exact a1
      · rw [if_neg (by omega), if_neg (by omega)]; simpa [updB, e] using a2
      · rw [if_neg (by omega), if_neg (by omega)]; simpa [updB, e] using a3
  · exact (((((Fr.refl _ _).setCell (.inl (by simp)) _).setCell (.inl (by simp)) _).setCell (.inl (by simp)) _).drew).setCell (.inl (by simp)) _

set_option maxHeartbeats 400000 in
theorem unhold16 (w : World) (br bq n i : Nat) (R H B : Nat → Bool) (h : RoundAt w br bq n R H B) (hi : i < n) :
    Calls Try.prog 16 #[.pointer (some ⟨br, 0, none⟩), .int .i64 i] w fun e w' => e = .returned (jobV (H i)) ∧ RoundAt w' br bq n R (updB H i false) (updB B i false) ∧ Fr [br, bq] w w' := by
  obtain ⟨f, r1, e1, e2⟩ := h.head
  obtain ⟨g, r2, e3⟩ := h.reqs
  have hne := h.ne
  have hn := h.hn
  have m0 : w.cell? ⟨br, 10, none⟩ = some (.int .i32 0) := by rw [r1.cell (by omega), e1]
  have m1 : w.frozen? ⟨br, 10, none⟩ = false := r1.frozen 10
  have q0 : w.cell? ⟨br, 13, none⟩ = some (.slice (some ⟨bq, 0, none⟩) n n) := by rw [r1.cell (by omega), e2]
  have j1 : w.cell? ⟨bq, i * 4 + 1, none⟩ = some (jobV (H i)) := by rw [r2.cell (by omega), (e3 i hi).2.1]
  have j2 : w.cell? ⟨bq, i * 4 + 2, none⟩ = some (g (i * 4 + 2)) := r2.cell (by omega)
  have z1 : w.frozen? ⟨bq, i * 4 + 1, none⟩ = false := r2.frozen _
  have z2 : w.frozen? ⟨bq, i * 4 + 2, none⟩ = false := r2.frozen _
  have hik : (i : Int) < (n : Int) := by omega
  cases hH : H i
  · rw [hH] at j1
    simp only [jobV, Bool.false_eq_true, if_false] at j1 ⊢
    clear r1 r2 e1 e2 e3
    go_enter_defers Try.func16, Try.ntmps16
    go_wp2_with fail
    refine (lock_free muLib ⟨br, 10, none⟩ _ m0 m1).mono ?_
    rintro e w1 ⟨rfl, hw1⟩
    have q0' : w1.cell? ⟨br, 13, none⟩ = some (.slice (some ⟨bq, 0, none⟩) n n) := by rw [hw1, World.cell?_setCell_other _ _ _ _ (by simp)]; exact q0
    have j1' : w1.cell? ⟨bq, i * 4 + 1, none⟩ = some .nilFunc := by rw [hw1, World.cell?_setCell_other _ _ _ _ (by simp)]; exact j1
    have j2' : w1.cell? ⟨bq, i * 4 + 2, none⟩ = some (g (i * 4 + 2)) := by rw [hw1, World.cell?_setCell_other _ _ _ _ (by simp)]; exact j2
    have z1' : w1.frozen? ⟨bq, i * 4 + 1, none⟩ = false := by rw [hw1]; simpa using z1
    have z2' : w1.frozen? ⟨bq, i * 4 + 2, none⟩ = false := by rw [hw1]; simpa using z2
    have mm : w1.cell? ⟨br, 10, none⟩ = some (.int .i32 1) := by rw [hw1]; exact World.cell?_setCell_same w _ _ m0
    have mz : w1.frozen? ⟨br, 10, none⟩ = false := by rw [hw1]; simpa using m1
    have HW : Hid (w1 = w.setCell ⟨br, 10, none⟩ (.int .i32 1)) := hw1
    clear hw1 q0 j1 j2 z1 z2 m0 m1
    go_wp2_with fail
    go_region
    all_goals
      go_wp2_with fail
      refine leaves_cons (f := 19) (args := #[.pointer (some ⟨br, 10, none⟩)]) (by simp) (by simp [go_sem]) ?_
      refine (unlock_deferred muLib ⟨br, 10, none⟩ .returning _ ?_ ?_).mono ?_
      · exact (World.cell?_setCell_other _ _ _ _ (fun e => hne (Addr.mk.inj e).1.symm)).trans ((World.cell?_setCell_other _ _ _ _ (fun e => hne (Addr.mk.inj e).1.symm)).trans mm)
      · simpa using mz
      rintro e u' w'' ⟨rfl, rfl, rfl⟩
      refine ⟨_, results_tmp rfl _ _ _, rfl, ?_⟩
      rw [HW.out]
      exact unheld h
  · rw [hH] at j1
    simp only [jobV, if_true] at j1 ⊢
    clear r1 r2 e1 e2 e3
    go_enter_defers Try.func16, Try.ntmps16
    go_wp2_with fail
    refine (lock_free muLib ⟨br, 10, none⟩ _ m0 m1).mono ?_
    rintro e w1 ⟨rfl, hw1⟩
    have q0' : w1.cell? ⟨br, 13, none⟩ = some (.slice (some ⟨bq, 0, none⟩) n n) := by rw [hw1, World.cell?_setCell_other _ _ _ _ (by simp)]; exact q0
    have j1' : w1.cell? ⟨bq, i * 4 + 1, none⟩ = some (.func (.func 15) #[] #[]) := by rw [hw1, World.cell?_setCell_other _ _ _ _ (by simp)]; exact j1
    have j2' : w1.cell? ⟨bq, i * 4 + 2, none⟩ = some (g (i * 4 + 2)) := by rw [hw1, World.cell?_setCell_other _ _ _ _ (by simp)]; exact j2
    have z1' : w1.frozen? ⟨bq, i * 4 + 1, none⟩ = false := by rw [hw1]; simpa using z1
    have z2' : w1.frozen? ⟨bq, i * 4 + 2, none⟩ = false := by rw [hw1]; simpa using z2
    have mm : w1.cell? ⟨br, 10, none⟩ = some (.int .i32 1) := by rw [hw1]; exact World.cell?_setCell_same w _ _ m0
    have mz : w1.frozen? ⟨br, 10, none⟩ = false := by rw [hw1]; simpa using m1
    have HW : Hid (w1 = w.setCell ⟨br, 10, none⟩ (.int .i32 1)) := hw1
    clear hw1 q0 j1 j2 z1 z2 m0 m1
    go_wp2_with fail
    go_region
    all_goals
      go_wp2_with fail
      refine leaves_cons (f := 19) (args := #[.pointer (some ⟨br, 10, none⟩)]) (by simp) (by simp [go_sem]) ?_
      refine (unlock_deferred muLib ⟨br, 10, none⟩ .returning _ ?_ ?_).mono ?_
      · exact (World.cell?_setCell_other _ _ _ _ (fun e => hne (Addr.mk.inj e).1.symm)).trans ((World.cell?_setCell_other _ _ _ _ (fun e => hne (Addr.mk.inj e).1.symm)).trans mm)
      · simpa using mz
      rintro e u' w'' ⟨rfl, rfl, rfl⟩
      refine ⟨_, results_tmp rfl _ _ _, rfl, ?_⟩
      rw [HW.out]
      exact unheld h

end Go.Proofs.Qxb6613559a
