import Derived.Test.Qxb6613402aFacts
import Derived.Test.Qxb6613402aUniq
import Derived.Deep.QuietTactic
import Derived.BigQuiet
namespace Go.Proofs.Qxb6613402a
open Go.RowKit
open Go.Deep (BT)

/-- The places below k that are not skipped. -/
def PB (k : Nat) (skip : Int) (j : Nat) : Prop := j < k ∧ (j : Int) ≠ skip

theorem ao_skip {pr : Nat → Int} {k : Nat} {skip r : Int} (h : AO pr (PB k skip) r) (e : (k : Int) = skip) : AO pr (PB (k + 1) skip) r :=
  ao_congr h (fun j => by unfold PB; omega)

theorem ao_first {pr : Nat → Int} {k : Nat} {skip : Int} (h : AO pr (PB k skip) (-1)) (e : (k : Int) ≠ skip) : AO pr (PB (k + 1) skip) k := by
  rcases h with ⟨_, h⟩ | ⟨m, hm, _⟩
  · refine .inr ⟨k, rfl, ⟨by omega, e⟩, fun j hj => ?_⟩
    have : j = k := by
      have := h j
      unfold PB at this hj
      omega
    rw [this]; exact Int.le_refl _
  · omega

theorem ao_more {pr : Nat → Int} {k m : Nat} {skip : Int} (h : AO pr (PB k skip) m) (e : (k : Int) ≠ skip) (hp : pr m < pr k) : AO pr (PB (k + 1) skip) k := by
  rcases h with ⟨h, _⟩ | ⟨m', hm, h1, h2⟩
  · omega
  · obtain rfl : m = m' := by omega
    refine .inr ⟨k, rfl, ⟨by omega, e⟩, fun j hj => ?_⟩
    by_cases hk : j = k
    · rw [hk]; exact Int.le_refl _
    · have := h2 j (by unfold PB at hj ⊢; omega)
      omega

theorem ao_less {pr : Nat → Int} {k m : Nat} {skip : Int} (h : AO pr (PB k skip) m) (hp : ¬ pr m < pr k) : AO pr (PB (k + 1) skip) m := by
  rcases h with ⟨h, _⟩ | ⟨m', hm, h1, h2⟩
  · omega
  · obtain rfl : m = m' := by omega
    refine .inr ⟨m, rfl, by unfold PB at h1 ⊢; omega, fun j hj => ?_⟩
    by_cases hk : j = k
    · rw [hk]; omega
    · exact h2 j (by unfold PB at hj ⊢; omega)

theorem ao_bound {pr : Nat → Int} {k : Nat} {skip r : Int} (h : AO pr (PB k skip) r) : r = -1 ∨ ∃ m : Nat, m < k ∧ r = (m : Int) := by
  rcases h with ⟨h, _⟩ | ⟨m, hm, h1, _⟩
  · exact .inl h
  · exact .inr ⟨m, h1.1, hm⟩

set_option maxHeartbeats 1000000 in
theorem argmax28 (a : Option Addr) (b off len cap : Nat) (pr : Nat → Int) (skip : Int) (w : World) (hl : len ≤ 4096) (hr : RdI .u64 w a b off len pr) :
    Calls Try.prog 28 #[.slice a len cap, .int .i64 skip] w fun e w' => ∃ r, e = .returned (.int .i32 r) ∧ AO pr (PB len skip) r ∧ Fr [] w w' := by
  go_enter Try.func28, Try.ntmps28
  go_wp2_with fail
  go_loopw [5, 9] (fun bst i wr => ∃ (k : Nat) (r : Int), k ≤ len ∧ i = .int .i64 k ∧ bst = .int .i32 r ∧ AO pr (PB k skip) r ∧ Fr [] w wr) (fun _ i _ => len - (intOf i).toNat)
  case atStart => exact ⟨0, -1, Nat.zero_le _, rfl, rfl, .inl ⟨rfl, fun j h => by unfold PB at h; omega⟩, Fr.refl _ _⟩
  case round =>
    obtain ⟨k, r, hk, rfl, rfl, hao, hF⟩ := hrel
    by_cases hlt : k < len
    · obtain rfl := hr.adr (by omega)
      have hki : (k : Int) < (len : Int) := by omega
      have k0 : wr.cell? ⟨b, off + k, none⟩ = some (.int .u64 (pr k)) := hF.cell (hr.cell k hlt) (by simp)
      by_cases hsk : (k : Int) = skip
      · have HA := ao_skip hao hsk
        have hsk' : ((k : Int) == skip) = true := by simpa using hsk
        clear hao hsk
        go_wp2_with fail
        go_roundw
        case rel => exact ⟨k + 1, r, by omega, by go_num, rfl, HA, hF⟩
        case measure => simp [intOf]; omega
      · have hsk' : ((k : Int) == skip) = false := by simpa using hsk
        rcases ao_bound hao with rfl | ⟨m, hm, rfl⟩
        · have HA := ao_first hao hsk
          clear hao hsk
          go_wp2_with fail
          go_quiet (fail)
          go_wp2_with fail
          go_roundw
          case rel => exact ⟨k + 1, k, by omega, by go_num, rfl, HA, hF.drewN _⟩
          case measure => simp [intOf]; omega
        · have m0 : wr.cell? ⟨b, off + m, none⟩ = some (.int .u64 (pr m)) := hF.cell (hr.cell m (by omega)) (by simp)
          have hmi : (m : Int) < (len : Int) := by omega
          have hm0 : decide ((m : Int) < 0) = false := by simp
          by_cases hp : pr m < pr k
          · have HA := ao_more hao hsk hp
            clear hao hsk
            go_wp2_with fail
            go_quiet (fail)
            go_wp2_with fail
            go_roundw
            case rel => exact ⟨k + 1, k, by omega, by go_num, rfl, HA, hF.drewN _⟩
            case measure => simp [intOf]; omega
          · have HA := ao_less hao hp
            clear hao hsk
            go_wp2_with fail
            go_quiet (fail)
            go_wp2_with fail
            go_roundw
            case rel => exact ⟨k + 1, m, by omega, by go_num, rfl, HA, hF.drewN _⟩
            case measure => simp [intOf]; omega
    · obtain rfl : len = k := by omega
      go_wp2_with fail
      go_ret
      exact ⟨r, rfl, hao, hF⟩

end Go.Proofs.Qxb6613402a
