/-
  OWN WORK ON THIS SEAT. Plain functions for the two laws on Writes: no Go in sight.
-/
import Derived.WalkKit
namespace Go.Proofs.Qxb6613402a

/-- Is x among g 0 .. g (n - 1)? -/
def inG (g : Nat → Int) : Nat → Int → Bool
  | 0, _ => false
  | n + 1, x => inG g n x || x == g n

/-- How many of the first n are kept when the aborted tail is struck: one behind the greatest place that is not aborted. -/
def keepN (f : Int → Bool) (g : Nat → Int) : Nat → Nat
  | 0 => 0
  | n + 1 => if f (g n) then keepN f g n else n + 1

theorem keepN_hit {f : Int → Bool} {g : Nat → Int} {n : Nat} (h : f (g n) = true) : keepN f g (n + 1) = keepN f g n := by simp [keepN, h]
theorem keepN_miss {f : Int → Bool} {g : Nat → Int} {n : Nat} (h : f (g n) = false) : keepN f g (n + 1) = n + 1 := by simp [keepN, h]

theorem keepN_le (f : Int → Bool) (g : Nat → Int) (n : Nat) : keepN f g n ≤ n := by
  induction n with
  | zero => simp [keepN]
  | succ n ih => unfold keepN; split <;> omega

/-- A second asking under more aborts goes on from what the first has kept. -/
theorem keepN_again (f f' : Int → Bool) (g : Nat → Int) (hff : ∀ x, f x = true → f' x = true) (n : Nat) : keepN f' g (keepN f g n) = keepN f' g n := by
  induction n with
  | zero => rfl
  | succ n ih =>
    by_cases h : f (g n) = true
    · rw [show keepN f g (n + 1) = keepN f g n by simp [keepN, h], ih]
      simp [keepN, hff _ h]
    · rw [show keepN f g (n + 1) = n + 1 by simp [keepN, h]]

theorem keepN_congr {f : Int → Bool} {g g' : Nat → Int} {n : Nat} (h : ∀ i, i < n → g i = g' i) : keepN f g n = keepN f g' n := by
  induction n with
  | zero => rfl
  | succ n ih => simp [keepN, h n (by omega), ih (fun i hi => h i (by omega))]

/-- Is there one? (a Bool of its own: the walk leaves it as it stands) -/
def posB (n : Nat) : Bool := decide (n ≠ 0)
theorem posB_zero : posB 0 = false := rfl
theorem posB_pos {n : Nat} (h : n ≠ 0) : posB n = true := by simp [posB, h]

/-- What is last of those kept (0 for none). -/
def lastOf (g : Nat → Int) (n : Nat) : Int := if n = 0 then 0 else g (n - 1)

end Go.Proofs.Qxb6613402a
