import Derived.Test.Qxb6613402aFacts
import Derived.Deep.QuietTactic
import Derived.BigQuiet
namespace Go.Proofs.Qxb6613402a
open Go.RowKit Go.Maps

/-- zzIncreasingNonNeg: it answers, and writes nothing. -/
theorem incr10 (a : Option Addr) (b off len cap : Nat) (g : Nat → Int) (w : World) (hl : len ≤ maxLen) (hr : RdI .i64 w a b off len g) :
    Calls Try.prog 10 #[.slice a len cap] w fun e w' => (∃ r : Bool, e = .returned (.bool r)) ∧ Fr [] w w' := by
  unfold maxLen at hl
  go_enter Try.func10, Try.ntmps10
  go_wp2
  go_loopw [6] (fun i wr => ∃ k : Nat, k ≤ len ∧ i = .int .i64 k ∧ Fr [] w wr) (fun i _ => len - (intOf i).toNat)
  case atStart => exact ⟨0, Nat.zero_le _, rfl, Fr.refl _ _⟩
  case round =>
    obtain ⟨k, hk, rfl, hfr⟩ := hrel
    by_cases hlt : k < len
    · obtain rfl := hr.adr (by omega)
      have hc1 : wr.cell? ⟨b, off + k, none⟩ = some (.int .i64 (g k)) := hfr.cell (hr.cell k hlt) (by simp)
      by_cases hk0 : 0 < k
      · have hc2 : wr.cell? ⟨b, off + (k - 1), none⟩ = some (.int .i64 (g (k - 1))) := hfr.cell (hr.cell (k - 1) (by omega)) (by simp)
        go_wp2
        · go_ret
          exact ⟨⟨_, rfl⟩, hfr⟩
        · go_quiet (fail)
          go_wp2
          · go_ret
            exact ⟨⟨_, rfl⟩, hfr.drewN _⟩
          · go_roundw
            case rel => exact ⟨k + 1, by omega, by go_num, hfr.drewN _⟩
            case measure => simp [intOf]; omega
      · have hd : decide (0 < (k : Int)) = false := by simp; omega
        go_wp2
        · go_ret
          exact ⟨⟨_, rfl⟩, hfr⟩
        · go_quiet (fail)
          go_wp2
          go_roundw
          case rel => exact ⟨k + 1, by omega, by go_num, hfr.drewN _⟩
          case measure => simp [intOf]; omega
    · go_wp2
      go_ret
      exact ⟨⟨_, rfl⟩, hfr⟩

/-- zzCloneInts: nil for nil; else a new row with the same numbers. -/
theorem clone11 (a : Option Addr) (b off len cap : Nat) (g : Nat → Int) (w : World) (hl : len ≤ 1048576) (hr : RdI .i64 w a b off len g) :
    Calls Try.prog 11 #[.slice a len cap] w fun e w' => ∃ a', (a' = none ∨ a' = some ⟨w.heap.size, 0, none⟩) ∧ e = .returned (.slice a' len len) ∧ RdI .i64 w' a' w.heap.size 0 len g ∧ Fr [] w w' := by
  have he := fun (w' : World) (a : Option Addr) (n c : Nat) => Lib.run_eql_slice_nil (P := Try.prog) w' 22 3 a n c 0 0 Try.underlying22
  have hmk := run_make_row' (P := Try.prog) 22 3 (.int .i64 0) 8 Try.underlying22 info3 rfl .i64 .i64 len (by omega) (by omega)
  rcases a with _ | ad
  · have h0 : len = 0 := by
      rcases Nat.eq_zero_or_pos len with h | h
      · exact h
      · exact absurd (hr.adr h) (by simp)
    subst h0
    go_enter Try.func11, Try.ntmps11
    go_wp2
    go_ret
    exact ⟨none, .inl rfl, rfl, ⟨fun h => by omega, fun i h => by omega, fun i h => by omega⟩, Fr.refl _ _⟩
  · go_enter Try.func11, Try.ntmps11
    go_wp2
    go_loopw [12] (fun i wr => ∃ k : Nat, k ≤ len ∧ i = .int .i64 k ∧ Fr [] w wr ∧ ∃ f, wr.rowIs w.heap.size 3 len f ∧ ∀ j, j < k → f j = .int .i64 (g j)) (fun i _ => len - (intOf i).toNat)
    case atStart => exact ⟨0, Nat.zero_le _, rfl, (Fr.refl _ _).alloc _, _, World.rowIs_made _ _ _ _, fun j hj => by omega⟩
    case round =>
      obtain ⟨k, hk, rfl, hfr, f, hrow, hf⟩ := hrel
      by_cases hlt : k < len
      · obtain ⟨rfl⟩ := Option.some.inj (hr.adr (by omega))
        have hc1 : wr.cell? ⟨b, off + k, none⟩ = some (.int .i64 (g k)) := hfr.cell (hr.cell k hlt) (by simp)
        have hc2 : wr.cell? ⟨w.heap.size, k, none⟩ = some (f k) := hrow.cell hlt
        have hc3 : wr.frozen? ⟨w.heap.size, k, none⟩ = false := hrow.frozen k
        have H : Hid (∀ j, j < k → f j = .int .i64 (g j)) := hf
        clear hf
        go_wp2
        go_roundw
        case rel =>
          refine ⟨k + 1, by omega, by go_num, hfr.setCell (.inr (Nat.le_refl _)) _, _, hrow.set k _, fun j hj => ?_⟩
          by_cases e : j = k
          · subst e; simp
          · rw [if_neg e]; exact H.out j (by omega)
        case measure => simp [intOf]; omega
      · have H : Hid (∀ j, j < k → f j = .int .i64 (g j)) := hf
        clear hf
        go_wp2
        go_ret
        exact ⟨_, .inr rfl, rfl, ⟨fun _ => rfl, fun i hi => by rw [Nat.zero_add, hrow.cell hi, H.out i (by omega)], hr.wf⟩, hfr⟩

end Go.Proofs.Qxb6613402a
