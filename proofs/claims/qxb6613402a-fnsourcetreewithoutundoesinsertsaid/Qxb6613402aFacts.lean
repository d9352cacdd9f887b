/-
  OWN WORK ON THIS SEAT. Closed facts of the program; what is known of a slice of integers that is read.
-/
import Derived.Test.Qxb6613402aProg
import Derived.Test.Qxb6613402aKit
import Derived.WalkSpells
import Derived.WalkLawsBesides
namespace Go.Proofs.Qxb6613402a
open Go.RowKit Go.Maps

theorem cells22 : Try.prog.cellsOf 22 = 1 := by kernel_rfl
theorem cells3 : Try.prog.cellsOf 3 = 1 := by kernel_rfl
theorem cells4 : Try.prog.cellsOf 4 = 1 := by kernel_rfl
theorem info3 : (Try.prog.info? 3).map (fun i => (i.zero, i.size, i.bytes)) = some (some (.int .i64 0), 1, 8) := by kernel_rfl
theorem zero4 (w : World) : (zeroValue 4).run Try.prog w = .ok (.bool false) w := by kernel_rfl

/-- A slice that is read: its elements are the numbers 'g 0 .. g (len - 1)'. -/
structure RdI (k : IntKind) (w : World) (a : Option Addr) (b off len : Nat) (g : Nat → Int) : Prop where
  adr : 0 < len → a = some ⟨b, off, none⟩
  cell : ∀ i, i < len → w.cell? ⟨b, off + i, none⟩ = some (.int k (g i))
  wf : ∀ i, i < len → (Lit.int k (g i)).wf = true

theorem RdI.fr {k : IntKind} {w w' : World} {a : Option Addr} {b off len : Nat} {g : Nat → Int} {S : List Nat} (h : RdI k w a b off len g) (hf : Fr S w w') (hn : 0 < len → b ∉ S) : RdI k w' a b off len g :=
  ⟨h.adr, fun i hi => hf.cell (h.cell i hi) (hn (by omega)), h.wf⟩

theorem RdI.lt {k : IntKind} {w : World} {a : Option Addr} {b off len : Nat} {g : Nat → Int} (h : RdI k w a b off len g) (h0 : 0 < len) : b < w.heap.size := lt_of_cell (h.cell 0 h0)

theorem RdI.take {k : IntKind} {w : World} {a : Option Addr} {b off len : Nat} {g : Nat → Int} (h : RdI k w a b off len g) {n : Nat} (hn : n ≤ len) : RdI k w a b off n g :=
  ⟨fun h0 => h.adr (by omega), fun i hi => h.cell i (by omega), fun i hi => h.wf i (by omega)⟩

end Go.Proofs.Qxb6613402a
