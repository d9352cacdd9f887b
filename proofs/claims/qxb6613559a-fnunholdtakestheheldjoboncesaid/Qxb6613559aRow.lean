/-
  OWN WORK ON THIS SEAT. From what the row's own step knows of a slice that came in to what the walks are told.
-/
import Derived.Test.Qxb6613559aW2
namespace Go.Proofs.Qxb6613559a
open Go.RowKit

/-- A slice of integers that is read. -/
structure RdI (k : IntKind) (w : World) (a : Option Addr) (b off len : Nat) (g : Nat → Int) : Prop where
  adr : 0 < len → a = some ⟨b, off, none⟩
  cell : ∀ i, i < len → w.cell? ⟨b, off + i, none⟩ = some (.int k (g i))
  wf : ∀ i, i < len → (Lit.int k (g i)).wf = true

theorem RdI.fr {k : IntKind} {w w' : World} {a : Option Addr} {b off len : Nat} {g : Nat → Int} {S : List Nat} (h : RdI k w a b off len g) (hf : Fr S w w') (hn : 0 < len → b ∉ S) : RdI k w' a b off len g :=
  ⟨h.adr, fun i hi => hf.cell (h.cell i hi) (hn (by omega)), h.wf⟩
theorem RdI.lt {k : IntKind} {w : World} {a : Option Addr} {b off len : Nat} {g : Nat → Int} (h : RdI k w a b off len g) (h0 : 0 < len) : b < w.heap.size := lt_of_cell (h.cell 0 h0)

theorem plain_addr {w : World} {x : Addr} {v : Value} (c0 : w.cell? (x.add 0) = some v) : x.spot = none := by
  have hx : x.add 0 = x := by simp [Addr.add]
  rw [hx] at c0
  unfold World.cell? at c0
  split at c0
  · split at c0
    · cases c0
    · rename_i hs; simpa using hs
  · cases c0

theorem add_plain (b o i : Nat) : (⟨b, o, none⟩ : Addr).add i = ⟨b, o + i, none⟩ := by unfold Addr.add; split <;> simp_all

/-- What the row's step knows of a slice of bools that came in. -/
def IsB (w : World) (a : Option Addr) (len cap : Nat) (B : Nat → Bool) : Prop :=
  (a = none ∧ len = 0 ∧ cap = 0) ∨ ∃ x, a = some x ∧ len ≤ cap ∧ cap ≤ maxLen ∧ ∀ i, i < cap → w.cell? (x.add i) = some (.bool (B i))

theorem IsB.rd {w : World} {a : Option Addr} {len cap : Nat} {B : Nat → Bool} (h : IsB w a len cap B) : ∃ b off, len ≤ maxLen ∧ RdB w a b off len B := by
  rcases h with ⟨rfl, rfl, rfl⟩ | ⟨x, rfl, hl, hm, hc⟩
  · exact ⟨0, 0, Nat.zero_le _, ⟨fun h => by omega, fun i h => by omega⟩⟩
  · by_cases h0 : len = 0
    · subst h0
      exact ⟨0, 0, Nat.zero_le _, ⟨fun h => by omega, fun i h => by omega⟩⟩
    · have hs := plain_addr (hc 0 (by omega))
      obtain ⟨b, o, s⟩ := x
      simp only at hs
      subst hs
      refine ⟨b, o, by omega, ⟨fun _ => rfl, fun i hi => ?_⟩⟩
      have := hc i (by omega)
      rwa [add_plain] at this

/-- What the row's step knows of a slice of integers that came in (the shell's words). -/
def IsRow (k : IntKind) (w : World) (a : Option Addr) (len cap : Nat) (zs : List Int) : Prop :=
  (a = none ∧ len = 0 ∧ cap = 0 ∧ zs = []) ∨
  ∃ x, a = some x ∧ len ≤ cap ∧ cap ≤ maxLen ∧ zs.length = cap ∧ (∀ i, i < zs.length → w.cell? (x.add i) = some (.int k (zs.getD i 0))) ∧ ∀ n ∈ zs, (Lit.int k n).wf = true

theorem IsRow.rd {k : IntKind} {w : World} {a : Option Addr} {len cap : Nat} {zs : List Int} (h : IsRow k w a len cap zs) : ∃ b off g, len ≤ maxLen ∧ RdI k w a b off len g := by
  rcases h with ⟨rfl, rfl, rfl, rfl⟩ | ⟨x, rfl, hl, hm, hz, hc, hw⟩
  · exact ⟨0, 0, fun _ => 0, Nat.zero_le _, ⟨fun h => by omega, fun i h => by omega, fun i h => by omega⟩⟩
  · by_cases h0 : len = 0
    · subst h0
      exact ⟨0, 0, fun _ => 0, Nat.zero_le _, ⟨fun h => by omega, fun i h => by omega, fun i h => by omega⟩⟩
    · have hs := plain_addr (hc 0 (by omega))
      obtain ⟨b, o, s⟩ := x
      simp only at hs
      subst hs
      refine ⟨b, o, fun i => zs.getD i 0, by omega, ⟨fun _ => rfl, fun i hi => ?_, fun i hi => ?_⟩⟩
      · have := hc i (by omega)
        rwa [add_plain] at this
      · refine hw _ ?_
        have hi' : i < zs.length := by omega
        show zs.getD i 0 ∈ zs
        rw [List.getD_eq_getElem?_getD, List.getElem?_eq_getElem hi']
        exact List.getElem_mem hi'

end Go.Proofs.Qxb6613559a
