/-
  OWN WORK ON THIS SEAT. Plain facts for FnWritesLastSeesWritesRecordedAfterForgetting: no Go in sight.
-/
import Derived.Test.Qxb6613402aPlain1
namespace Go.Proofs.Qxb6613402a

/-- 'Behind the first n of g0 comes g2.' -/
structure CatG (G g0 : Nat → Int) (n : Nat) (g2 : Nat → Int) (m : Nat) : Prop where
  lo : ∀ i, i < n → G i = g0 i
  hi : ∀ i, i < m → G (n + i) = g2 i

def catG (g0 : Nat → Int) (n : Nat) (g2 : Nat → Int) (i : Nat) : Int := if i < n then g0 i else g2 (i - n)

theorem catG_is (g0 : Nat → Int) (n : Nat) (g2 : Nat → Int) (m : Nat) : CatG (catG g0 n g2) g0 n g2 m :=
  ⟨fun i hi => by simp [catG, hi], fun i _ => by unfold catG; rw [if_neg (by omega), Nat.add_sub_cancel_left]⟩

theorem keep_cat {f : Int → Bool} {g0 g2 G R : Nat → Int} {l0 n1 l2 : Nat} (h1 : keepN f g0 l0 = n1) (hG : CatG G g0 l0 g2 l2) (hR : CatG R g0 n1 g2 l2) :
    ∀ m, m ≤ l2 → (∃ t, t < m ∧ keepN f R (n1 + m) = n1 + t + 1 ∧ keepN f G (l0 + m) = l0 + t + 1) ∨ (keepN f R (n1 + m) = n1 ∧ keepN f G (l0 + m) = n1) := by
  intro m
  induction m with
  | zero =>
    intro _
    right
    constructor
    · rw [Nat.add_zero, keepN_congr (g' := g0) (fun i hi => hR.lo i hi), ← h1]
      exact keepN_again f f g0 (fun _ h => h) l0
    · rw [Nat.add_zero, keepN_congr (g' := g0) (fun i hi => hG.lo i hi)]
      exact h1
  | succ m ih =>
    intro hm
    have e1 : G (l0 + m) = g2 m := hG.hi m (by omega)
    have e2 : R (n1 + m) = g2 m := hR.hi m (by omega)
    cases hf : f (g2 m)
    · left
      refine ⟨m, by omega, ?_, ?_⟩
      · rw [← Nat.add_assoc, keepN_miss (by rw [e2]; exact hf)]
      · rw [← Nat.add_assoc, keepN_miss (by rw [e1]; exact hf)]
    · rw [← Nat.add_assoc, ← Nat.add_assoc, keepN_hit (by rw [e2]; exact hf), keepN_hit (by rw [e1]; exact hf)]
      rcases ih (by omega) with ⟨t, ht, h⟩ | h
      · exact .inl ⟨t, by omega, h⟩
      · exact .inr h

theorem last_cat {f : Int → Bool} {g0 g2 G R : Nat → Int} {l0 n1 l2 : Nat} (h1 : keepN f g0 l0 = n1) (hG : CatG G g0 l0 g2 l2) (hR : CatG R g0 n1 g2 l2) (hn : n1 ≤ l0) :
    lastOf R (keepN f R (n1 + l2)) = lastOf G (keepN f G (l0 + l2)) ∧ posB (keepN f R (n1 + l2)) = posB (keepN f G (l0 + l2)) := by
  rcases keep_cat h1 hG hR l2 (Nat.le_refl _) with ⟨t, ht, ha, hb⟩ | ⟨ha, hb⟩
  · rw [ha, hb, posB_pos (by omega), posB_pos (by omega)]
    refine ⟨?_, rfl⟩
    simp only [lastOf, show ¬ n1 + t + 1 = 0 by omega, show ¬ l0 + t + 1 = 0 by omega, if_false, Nat.add_sub_cancel]
    rw [hR.hi t ht, hG.hi t ht]
  · rw [ha, hb]
    refine ⟨?_, rfl⟩
    by_cases h0 : n1 = 0
    · simp [lastOf, h0]
    · simp only [lastOf, h0, if_false]
      rw [hR.lo _ (by omega), hG.lo _ (by omega)]

end Go.Proofs.Qxb6613402a
