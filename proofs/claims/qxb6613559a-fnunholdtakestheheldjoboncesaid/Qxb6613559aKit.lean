/-
  OWN WORK ON THIS SEAT. Small tools: a frame that lets a list of blocks go ('Fr').
-/
import Derived.WalkKit
import Derived.Below
import Derived.Deep.Draws
import Derived.Deep.OwnRows
namespace Go.Proofs.Qxb6613559a
open Go.RowKit

/-- w' is w with new blocks and with writes to the blocks of S alone. -/
structure Fr (S : List Nat) (w w' : World) : Prop where
  os : w'.os = w.os
  tape : w'.tape = w.tape
  output : w'.output = w.output
  size : w.heap.size ≤ w'.heap.size
  block : ∀ k, k < w.heap.size → k ∉ S → w'.heap[k]? = w.heap[k]?

theorem Fr.refl (S : List Nat) (w : World) : Fr S w w := ⟨rfl, rfl, rfl, Nat.le_refl _, fun _ _ _ => rfl⟩

theorem Fr.trans {S : List Nat} {a b c : World} (h : Fr S a b) (k : Fr S b c) : Fr S a c :=
  ⟨k.os.trans h.os, k.tape.trans h.tape, k.output.trans h.output, Nat.le_trans h.size k.size,
   fun i hi hs => (k.block i (Nat.lt_of_lt_of_le hi h.size) hs).trans (h.block i hi hs)⟩

theorem Fr.mono {S T : List Nat} {a b : World} (h : Fr S a b) (hs : ∀ k, k ∈ S → k < a.heap.size → k ∈ T) : Fr T a b :=
  ⟨h.os, h.tape, h.output, h.size, fun i hi hn => h.block i hi (fun hm => hn (hs i hm hi))⟩

/-- What is let go and was not there at the start counts for nothing. -/
theorem Fr.transNew {S T : List Nat} {a b c : World} (h : Fr S a b) (k : Fr T b c) (hs : ∀ x, x ∈ T → x < a.heap.size → x ∈ S) : Fr S a c :=
  ⟨k.os.trans h.os, k.tape.trans h.tape, k.output.trans h.output, Nat.le_trans h.size k.size,
   fun i hi hn => (k.block i (Nat.lt_of_lt_of_le hi h.size) (fun hm => hn (hs i hm hi))).trans (h.block i hi hn)⟩

theorem Fr.drew {S : List Nat} {a w : World} (h : Fr S a w) : Fr S a w.drew := ⟨h.os, h.tape, h.output, h.size, h.block⟩

theorem Fr.drewN {S : List Nat} {a w : World} (h : Fr S a w) (n : Nat) : Fr S a (w.drewN n) := ⟨h.os, h.tape, h.output, h.size, h.block⟩

theorem Fr.alloc {S : List Nat} {a w : World} (h : Fr S a w) (o : Obj) : Fr S a (w.alloc o) :=
  h.trans ⟨rfl, rfl, rfl, by simp, fun k hk _ => Below.heap_alloc _ _ _ hk⟩

theorem Fr.setCell {S : List Nat} {a w : World} (h : Fr S a w) {p : Addr} (hp : p.block ∈ S ∨ a.heap.size ≤ p.block) (u : Value) : Fr S a (w.setCell p u) :=
  ⟨h.os, h.tape, h.output, by simpa [World.setCell] using h.size, fun k hk hn => by
    have hne : k ≠ p.block := by
      rcases hp with hp | hp
      · exact fun e => hn (by rw [e]; exact hp)
      · omega
    rw [Below.heap_setCell _ _ _ _ hne]
    exact h.block k hk hn⟩

theorem Fr.grown {S : List Nat} {a w w' : World} {row : Option Nat} (h : Fr S a w) (hg : w.grownBy w' row) (hr : ∀ k, row = some k → k < a.heap.size → k ∈ S) : Fr S a w' :=
  ⟨hg.os.trans h.os, hg.tape.trans h.tape, hg.output.trans h.output, Nat.le_trans h.size hg.size,
   fun k hk hn => (hg.block k (Nat.lt_of_lt_of_le hk h.size) (fun e => hn (hr k e.symm hk))).trans (h.block k hk hn)⟩

theorem Fr.below {S : List Nat} {w w' : World} (h : Fr S w w') (B : Nat) (hB : B ≤ w.heap.size) (hs : ∀ k, k ∈ S → B ≤ k) : Below B w w' :=
  ⟨h.os, h.tape, h.output, h.size, fun k hk => h.block k (by omega) (fun hm => by have := hs k hm; omega)⟩

theorem Fr.of_below {w w' : World} (h : Below w.heap.size w w') : Fr [] w w' :=
  ⟨h.os, h.tape, h.output, h.size, fun k hk _ => h.block k hk⟩

theorem Fr.cell {S : List Nat} {w w' : World} (h : Fr S w w') {p : Addr} {v : Value} (hc : w.cell? p = some v) (hn : p.block ∉ S) : w'.cell? p = some v :=
  (World.cell?_of_block (h.block p.block (World.block_lt_of_cell? w p hc) hn)).trans hc

theorem Fr.frozen {S : List Nat} {w w' : World} (h : Fr S w w') {p : Addr} (hl : p.block < w.heap.size) (hn : p.block ∉ S) : w'.frozen? p = w.frozen? p :=
  World.frozen?_of_block (h.block p.block hl hn)

theorem lt_of_cell {w : World} {p : Addr} {v : Value} (hc : w.cell? p = some v) : p.block < w.heap.size := World.block_lt_of_cell? w p hc

theorem Fr.row {S : List Nat} {w w' : World} {b : Nat} {t : TypeId} {n : Nat} {f : Nat → Value} (h : Fr S w w') (hr : w.rowIs b t n f) (hn : b ∉ S) : w'.rowIs b t n f :=
  hr.of_block (h.block b hr.lt hn)

end Go.Proofs.Qxb6613559a
