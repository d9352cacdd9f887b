/-
  OWN WORK ON THIS SEAT. From what the row's own step knows of a slice that came in to what the walks are told.
-/
import Derived.Test.Qxb6613402aFacts

namespace Go.Proofs.Qxb6613402a
open Go.RowKit

/-- What the row's step knows of a slice of integers that came in (the shell's words). -/
def IsRow (k : IntKind) (w : World) (a : Option Addr) (len cap : Nat) (zs : List Int) : Prop :=
  (a = none ∧ len = 0 ∧ cap = 0 ∧ zs = []) ∨
  ∃ x, a = some x ∧ len ≤ cap ∧ cap ≤ maxLen ∧ zs.length = cap ∧ (∀ i, i < zs.length → w.cell? (x.add i) = some (.int k (zs.getD i 0))) ∧ ∀ n ∈ zs, (Lit.int k n).wf = true

theorem IsRow.rd {k : IntKind} {w : World} {a : Option Addr} {len cap : Nat} {zs : List Int} (h : IsRow k w a len cap zs) : ∃ b off g, len ≤ maxLen ∧ RdI k w a b off len g := by
  rcases h with ⟨rfl, rfl, rfl, rfl⟩ | ⟨x, rfl, hl, hm, hz, hc, hw⟩
  · exact ⟨0, 0, fun _ => 0, Nat.zero_le _, ⟨fun h => by omega, fun i h => by omega, fun i h => by omega⟩⟩
  · by_cases h0 : len = 0
    · subst h0
      exact ⟨0, 0, fun _ => 0, Nat.zero_le _, ⟨fun h => by omega, fun i h => by omega, fun i h => by omega⟩⟩
    · have c0 := hc 0 (by omega)
      have hx : x.add 0 = x := by simp [Addr.add]
      rw [hx] at c0
      have hs : x.spot = none := by
        unfold World.cell? at c0
        split at c0
        · split at c0
          · cases c0
          · rename_i hs; simpa using hs
        · cases c0
      obtain ⟨b, o, s⟩ := x
      simp only at hs
      subst hs
      refine ⟨b, o, fun i => zs.getD i 0, by omega, ⟨fun _ => rfl, fun i hi => ?_, fun i hi => ?_⟩⟩
      · have := hc i (by omega)
        rwa [show (⟨b, o, none⟩ : Addr).add i = ⟨b, o + i, none⟩ by unfold Addr.add; split <;> simp_all] at this
      · refine hw _ ?_
        have hi' : i < zs.length := by omega
        show zs.getD i 0 ∈ zs
        rw [List.getD_eq_getElem?_getD, List.getElem?_eq_getElem hi']
        exact List.getElem_mem hi'

end Go.Proofs.Qxb6613402a
