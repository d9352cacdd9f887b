import Derived.Test.Qxb6613402aFacts
import Derived.Test.Qxb6613402aPlain1
namespace Go.Proofs.Qxb6613402a
open Go.RowKit Go.Maps

theorem info49 : (Try.prog.info? 49).map (fun i => (i.zero, i.size, i.bytes)) = some (some (.int .u64 0), 1, 8) := by kernel_rfl

/-- No number twice among the first n. -/
def DistG (g : Nat → Int) (n : Nat) : Prop := ∀ i j, i < n → j < n → g i = g j → i = j

theorem inG_iff (g : Nat → Int) (n : Nat) (x : Int) : inG g n x = true ↔ ∃ i, i < n ∧ g i = x := by
  induction n with
  | zero => simp [inG]
  | succ n ih =>
    simp only [inG, Bool.or_eq_true, ih, beq_iff_eq]
    constructor
    · rintro (⟨i, hi, e⟩ | e)
      · exact ⟨i, by omega, e⟩
      · exact ⟨n, by omega, e.symm⟩
    · rintro ⟨i, hi, e⟩
      by_cases h : i = n
      · subst h; exact .inr e.symm
      · exact .inl ⟨i, by omega, e⟩

theorem dist_succ {g : Nat → Int} {n : Nat} (h : DistG g n) (hn : inG g n (g n) = false) : DistG g (n + 1) := by
  have hno : ∀ i, i < n → g i ≠ g n := by
    intro i hi e
    have := (inG_iff g n (g n)).2 ⟨i, hi, e⟩
    rw [hn] at this
    cases this
  intro i j hi hj e
  by_cases h1 : i = n
  · by_cases h2 : j = n
    · omega
    · subst h1; exact absurd e.symm (hno j (by omega))
  · by_cases h2 : j = n
    · subst h2; exact absurd e (hno i (by omega))
    · exact h i j (by omega) (by omega) e

set_option maxHeartbeats 400000 in
theorem dist21 (a : Option Addr) (b off len cap : Nat) (g : Nat → Int) (w : World) (hl : len ≤ 1048576) (hr : RdI .i64 w a b off len g) :
    Calls Try.prog 21 #[.slice a len cap] w fun e w' => (∃ r : Bool, e = .returned (.bool r) ∧ (r = true → DistG g len)) ∧ Fr [] w w' := by
  have hmm := fun (q : IntKind) (x : Int) (w : World) => run_makeMap_hint (P := Try.prog) Try.underlying26 q x w
  go_enter Try.func21, Try.ntmps21
  go_wp2
  go_loopw [10] (fun i wr => ∃ k : Nat, k ≤ len ∧ i = .int .i64 k ∧ DistG g k ∧ Fr [] w wr ∧ SetAt Try.prog 3 4 .i64 wr w.heap.size k (fun x => inG g k x)) (fun i _ => len - (intOf i).toNat)
  case atStart => exact ⟨0, Nat.zero_le _, rfl, fun i j hi => by omega, (Fr.refl _ _).alloc _, SetAt.made _ _ _ _ _⟩
  case round =>
    obtain ⟨k, hk, rfl, hd, hfr, hset⟩ := hrel
    by_cases hlt : k < len
    · obtain rfl := hr.adr (by omega)
      have hc1 : wr.cell? ⟨b, off + k, none⟩ = some (.int .i64 (g k)) := hfr.cell (hr.cell k hlt) (by simp)
      have HD : Hid (DistG g k) := hd
      clear hd
      go_wp2_with (first | (at_lookup; refine wpList_lookup_set rfl _ _ 26 rfl Try.underlying3 Try.underlying4 Try.underlying26 zero4 hset rfl _ rfl (hr.wf k hlt) ?_) | (at_mapUpdate; refine wpList_update_set rfl _ _ _ 26 rfl Try.underlying3 Try.underlying4 Try.underlying26 hset (by unfold maxLen; omega) rfl _ rfl rfl (hr.wf k hlt) ?_; intro w1 hset1 hg1))
      · go_ret
        exact ⟨⟨false, rfl, fun h => by cases h⟩, hfr⟩
      · have hf : inG g k (g k) = false := by assumption
        have HN : Hid (DistG g (k + 1)) := dist_succ HD.out hf
        go_roundw
        case rel => exact ⟨k + 1, by omega, by go_num, HN.out, hfr.grown hg1 (fun j hj hl => by cases hj; omega), hset1⟩
        case measure => simp [intOf]; omega
    · obtain rfl : len = k := by omega
      have HD : Hid (DistG g len) := hd
      clear hd
      go_wp2
      go_ret
      exact ⟨⟨true, rfl, fun _ => HD.out⟩, hfr⟩

set_option maxHeartbeats 400000 in
theorem dist27 (a : Option Addr) (b off len cap : Nat) (g : Nat → Int) (w : World) (hl : len ≤ 1048576) (hr : RdI .u64 w a b off len g) :
    Calls Try.prog 27 #[.slice a len cap] w fun e w' => (∃ r : Bool, e = .returned (.bool r) ∧ (r = true → DistG g len)) ∧ Fr [] w w' := by
  have hmm := fun (q : IntKind) (x : Int) (w : World) => run_makeMap_hint (P := Try.prog) Try.underlying63 q x w
  go_enter Try.func27, Try.ntmps27
  go_wp2
  go_loopw [10] (fun i wr => ∃ k : Nat, k ≤ len ∧ i = .int .i64 k ∧ DistG g k ∧ Fr [] w wr ∧ SetAt Try.prog 49 4 .u64 wr w.heap.size k (fun x => inG g k x)) (fun i _ => len - (intOf i).toNat)
  case atStart => exact ⟨0, Nat.zero_le _, rfl, fun i j hi => by omega, (Fr.refl _ _).alloc _, SetAt.made _ _ _ _ _⟩
  case round =>
    obtain ⟨k, hk, rfl, hd, hfr, hset⟩ := hrel
    by_cases hlt : k < len
    · obtain rfl := hr.adr (by omega)
      have hc1 : wr.cell? ⟨b, off + k, none⟩ = some (.int .u64 (g k)) := hfr.cell (hr.cell k hlt) (by simp)
      have HD : Hid (DistG g k) := hd
      clear hd
      go_wp2_with (first | (at_lookup; refine wpList_lookup_set rfl _ _ 63 rfl Try.underlying49 Try.underlying4 Try.underlying63 zero4 hset rfl _ rfl (hr.wf k hlt) ?_) | (at_mapUpdate; refine wpList_update_set rfl _ _ _ 63 rfl Try.underlying49 Try.underlying4 Try.underlying63 hset (by unfold maxLen; omega) rfl _ rfl rfl (hr.wf k hlt) ?_; intro w1 hset1 hg1))
      · go_ret
        exact ⟨⟨false, rfl, fun h => by cases h⟩, hfr⟩
      · have hf : inG g k (g k) = false := by assumption
        have HN : Hid (DistG g (k + 1)) := dist_succ HD.out hf
        go_roundw
        case rel => exact ⟨k + 1, by omega, by go_num, HN.out, hfr.grown hg1 (fun j hj hl => by cases hj; omega), hset1⟩
        case measure => simp [intOf]; omega
    · obtain rfl : len = k := by omega
      have HD : Hid (DistG g len) := hd
      clear hd
      go_wp2
      go_ret
      exact ⟨⟨true, rfl, fun _ => HD.out⟩, hfr⟩

/-- zzCloneU64: nil for nil; else a new row with the same numbers. -/
theorem clone22 (a : Option Addr) (b off len cap : Nat) (g : Nat → Int) (w : World) (hl : len ≤ 1048576) (hr : RdI .u64 w a b off len g) :
    Calls Try.prog 22 #[.slice a len cap] w fun e w' => ∃ a', (a' = none ∨ a' = some ⟨w.heap.size, 0, none⟩) ∧ e = .returned (.slice a' len len) ∧ RdI .u64 w' a' w.heap.size 0 len g ∧ Fr [] w w' := by
  have he := fun (w' : World) (a : Option Addr) (n c : Nat) => Lib.run_eql_slice_nil (P := Try.prog) w' 36 49 a n c 0 0 Try.underlying36
  have hmk := run_make_row' (P := Try.prog) 36 49 (.int .u64 0) 8 Try.underlying36 info49 rfl .i64 .i64 len (by omega) (by omega)
  rcases a with _ | ad
  · have h0 : len = 0 := by
      rcases Nat.eq_zero_or_pos len with h | h
      · exact h
      · exact absurd (hr.adr h) (by simp)
    subst h0
    go_enter Try.func22, Try.ntmps22
    go_wp2
    go_ret
    exact ⟨none, .inl rfl, rfl, ⟨fun h => by omega, fun i h => by omega, fun i h => by omega⟩, Fr.refl _ _⟩
  · go_enter Try.func22, Try.ntmps22
    go_wp2
    go_loopw [12] (fun i wr => ∃ k : Nat, k ≤ len ∧ i = .int .i64 k ∧ Fr [] w wr ∧ ∃ f, wr.rowIs w.heap.size 49 len f ∧ ∀ j, j < k → f j = .int .u64 (g j)) (fun i _ => len - (intOf i).toNat)
    case atStart => exact ⟨0, Nat.zero_le _, rfl, (Fr.refl _ _).alloc _, _, World.rowIs_made _ _ _ _, fun j hj => by omega⟩
    case round =>
      obtain ⟨k, hk, rfl, hfr, f, hrow, hf⟩ := hrel
      by_cases hlt : k < len
      · obtain ⟨rfl⟩ := Option.some.inj (hr.adr (by omega))
        have hc1 : wr.cell? ⟨b, off + k, none⟩ = some (.int .u64 (g k)) := hfr.cell (hr.cell k hlt) (by simp)
        have hc2 : wr.cell? ⟨w.heap.size, k, none⟩ = some (f k) := hrow.cell hlt
        have hc3 : wr.frozen? ⟨w.heap.size, k, none⟩ = false := hrow.frozen k
        have H : Hid (∀ j, j < k → f j = .int .u64 (g j)) := hf
        clear hf
        go_wp2
        go_roundw
        case rel =>
          refine ⟨k + 1, by omega, by go_num, hfr.setCell (.inr (Nat.le_refl _)) _, _, hrow.set k _, fun j hj => ?_⟩
          by_cases e : j = k
          · subst e; simp
          · rw [if_neg e]; exact H.out j (by omega)
        case measure => simp [intOf]; omega
      · have H : Hid (∀ j, j < k → f j = .int .u64 (g j)) := hf
        clear hf
        go_wp2
        go_ret
        exact ⟨_, .inr rfl, rfl, ⟨fun _ => rfl, fun i hi => by rw [Nat.zero_add, hrow.cell hi, H.out i (by omega)], hr.wf⟩, hfr⟩

set_option maxRecDepth 100000 in
set_option maxHeartbeats 400000 in
theorem bytes20 (a0 a1 a2 : Option Addr) (l0 c0 l1 c1 l2 c2 : Nat) (w : World) (h0 : l0 ≤ maxLen) (h1 : l1 ≤ maxLen) (h2 : l2 ≤ maxLen) :
    Calls Try.prog 20 #[.slice a0 l0 c0, .slice a1 l1 c1, .slice a2 l2 c2] w fun e w' => (∃ r : Bool, e = .returned (.bool r)) ∧ w' = w := by
  unfold maxLen at h0 h1 h2
  go_enter Try.func20, Try.ntmps20
  go_wp2
  all_goals (go_ret; exact ⟨⟨_, rfl⟩, rfl⟩)

set_option maxRecDepth 100000 in
set_option maxHeartbeats 400000 in
theorem bytes26 (a0 a1 a2 : Option Addr) (l0 c0 l1 c1 l2 c2 : Nat) (x : Int) (w : World) (h0 : l0 ≤ maxLen) (h1 : l1 ≤ maxLen) (h2 : l2 ≤ maxLen) :
    Calls Try.prog 26 #[.slice a0 l0 c0, .slice a1 l1 c1, .slice a2 l2 c2, .int .i64 x] w fun e w' => (∃ r : Bool, e = .returned (.bool r)) ∧ w' = w := by
  unfold maxLen at h0 h1 h2
  go_enter Try.func26, Try.ntmps26
  go_wp2
  all_goals (go_ret; exact ⟨⟨_, rfl⟩, rfl⟩)

set_option maxRecDepth 100000 in
set_option maxHeartbeats 400000 in
theorem bytes31 (a0 a1 a2 : Option Addr) (l0 c0 l1 c1 l2 c2 : Nat) (x : Int) (w : World) (h0 : l0 ≤ maxLen) (h1 : l1 ≤ maxLen) (h2 : l2 ≤ maxLen) :
    Calls Try.prog 31 #[.slice a0 l0 c0, .slice a1 l1 c1, .slice a2 l2 c2, .int .i64 x] w fun e w' => (∃ r : Bool, e = .returned (.bool r)) ∧ w' = w := by
  unfold maxLen at h0 h1 h2
  go_enter Try.func31, Try.ntmps31
  go_wp2
  all_goals (go_ret; exact ⟨⟨_, rfl⟩, rfl⟩)

set_option maxRecDepth 100000 in
set_option maxHeartbeats 400000 in
theorem bytes33 (a0 a1 a2 : Option Addr) (l0 c0 l1 c1 l2 c2 : Nat) (x : Int) (w : World) (h0 : l0 ≤ maxLen) (h1 : l1 ≤ maxLen) (h2 : l2 ≤ maxLen) :
    Calls Try.prog 33 #[.slice a0 l0 c0, .slice a1 l1 c1, .slice a2 l2 c2, .int .i64 x] w fun e w' => (∃ r : Bool, e = .returned (.bool r)) ∧ w' = w := by
  unfold maxLen at h0 h1 h2
  go_enter Try.func33, Try.ntmps33
  go_wp2
  all_goals (go_ret; exact ⟨⟨_, rfl⟩, rfl⟩)

end Go.Proofs.Qxb6613402a
