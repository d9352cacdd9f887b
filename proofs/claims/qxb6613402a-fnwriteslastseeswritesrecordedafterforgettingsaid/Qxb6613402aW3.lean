import Derived.Test.Qxb6613402aFacts
import Derived.Test.Qxb6613402aPlain1
import Derived.Deep.QuietTactic
import Derived.BigQuiet
namespace Go.Proofs.Qxb6613402a
open Go.RowKit Go.Maps

/-- zzSet: a new map that holds just the numbers of both slices. -/
theorem set12 (a0 : Option Addr) (b0 off0 l0 c0 : Nat) (g0 : Nat → Int) (a1 : Option Addr) (b1 off1 l1 c1 : Nat) (g1 : Nat → Int) (w : World)
    (h0 : l0 ≤ 1048576) (h1 : l1 ≤ 1048576) (r0 : RdI .i64 w a0 b0 off0 l0 g0) (r1 : RdI .i64 w a1 b1 off1 l1 g1) :
    Calls Try.prog 12 #[.slice a0 l0 c0, .slice a1 l1 c1] w fun e w' =>
      e = .returned (.map (some w.heap.size)) ∧ SetAt Try.prog 3 4 .i64 w' w.heap.size (l0 + l1) (fun x => inG g0 l0 x || inG g1 l1 x) ∧ Fr [] w w' := by
  have hmm := fun (q : IntKind) (x : Int) (w : World) => run_makeMap_hint (P := Try.prog) Try.underlying26 q x w
  go_enter Try.func12, Try.ntmps12
  go_wp2
  go_loopw [16] (fun i wr => ∃ k : Nat, k ≤ l0 ∧ i = .int .i64 k ∧ Fr [] w wr ∧ SetAt Try.prog 3 4 .i64 wr w.heap.size k (fun x => inG g0 k x)) (fun i _ => l0 - (intOf i).toNat)
  case atStart => exact ⟨0, Nat.zero_le _, rfl, (Fr.refl _ _).alloc _, SetAt.made _ _ _ _ _⟩
  case round =>
    obtain ⟨k, hk, rfl, hfr, hset⟩ := hrel
    by_cases hlt : k < l0
    · obtain rfl := r0.adr (by omega)
      have hc1 : wr.cell? ⟨b0, off0 + k, none⟩ = some (.int .i64 (g0 k)) := hfr.cell (r0.cell k hlt) (by simp)
      go_wp2_with (at_mapUpdate; refine wpList_update_set rfl _ _ _ 26 rfl Try.underlying3 Try.underlying4 Try.underlying26 hset (by unfold maxLen; omega) rfl _ rfl rfl (r0.wf k hlt) ?_; intro w1 hset1 hg1)
      go_roundw
      case rel => exact ⟨k + 1, by omega, by go_num, hfr.grown hg1 (fun j hj hl => by cases hj; omega), hset1⟩
      case measure => simp [intOf]; omega
    · obtain rfl : k = l0 := by omega
      go_wp2
      go_loopw [27] (fun i wx => ∃ k1 : Nat, k1 ≤ l1 ∧ i = .int .i64 k1 ∧ Fr [] w wx ∧ SetAt Try.prog 3 4 .i64 wx w.heap.size (k + k1) (fun x => inG g0 k x || inG g1 k1 x)) (fun i _ => l1 - (intOf i).toNat)
      case atStart => exact ⟨0, Nat.zero_le _, rfl, hfr, hset.congr (fun x _ => by simp [inG])⟩
      case round =>
        obtain ⟨k1, hk1, rfl, hfr1, hset1⟩ := hrel
        by_cases hlt : k1 < l1
        · obtain rfl := r1.adr (by omega)
          have hc1 : wr.cell? ⟨b1, off1 + k1, none⟩ = some (.int .i64 (g1 k1)) := hfr1.cell (r1.cell k1 hlt) (by simp)
          go_wp2_with (at_mapUpdate; refine wpList_update_set rfl _ _ _ 26 rfl Try.underlying3 Try.underlying4 Try.underlying26 hset1 (by unfold maxLen; omega) rfl _ rfl rfl (r1.wf k1 hlt) ?_; intro w2 hset2 hg2)
          go_roundw
          case rel => exact ⟨k1 + 1, by omega, by go_num, hfr1.grown hg2 (fun j hj hl => by cases hj; omega), hset2.congr (fun x _ => by simp [inG, Bool.or_assoc])⟩
          case measure => simp [intOf]; omega
        · obtain rfl : k1 = l1 := by omega
          go_wp2
          go_ret
          exact ⟨rfl, hset1, hfr1⟩

/-- zzLastLive: one less than how many are kept. -/
theorem live16 (a : Option Addr) (b off len cap : Nat) (g : Nat → Int) (bm n : Nat) (f : Int → Bool) (w : World) (hl : len ≤ 1048576) (hr : RdI .i64 w a b off len g) (hs : SetAt Try.prog 3 4 .i64 w bm n f) :
    Calls Try.prog 16 #[.slice a len cap, .map (some bm)] w fun e w' => e = .returned (.int .i64 ((keepN f g len : Int) - 1)) ∧ Fr [] w w' := by
  go_enter Try.func16, Try.ntmps16
  go_wp2
  go_loopw [5, 9] (fun j i wr => ∃ k : Nat, k ≤ len ∧ i = .int .i64 k ∧ j = .int .i64 ((keepN f g k : Int) - 1) ∧ Fr [] w wr) (fun _ i _ => len - (intOf i).toNat)
  case atStart => exact ⟨0, Nat.zero_le _, rfl, rfl, Fr.refl _ _⟩
  case round =>
    obtain ⟨k, hk, rfl, rfl, hfr⟩ := hrel
    have hset := hs.fr hfr (by simp)
    by_cases hlt : k < len
    · obtain rfl := hr.adr (by omega)
      have hc1 : wr.cell? ⟨b, off + k, none⟩ = some (.int .i64 (g k)) := hfr.cell (hr.cell k hlt) (by simp)
      cases hf : f (g k)
      · go_wp2_with (at_lookup; refine wpList_lookup_set rfl _ _ 26 rfl Try.underlying3 Try.underlying4 Try.underlying26 zero4 hset rfl _ rfl (hr.wf k hlt) ?_)
        go_roundw
        case rel => exact ⟨k + 1, by omega, by go_num, by rw [keepN_miss hf]; go_num, hfr⟩
        case measure => simp [intOf]; omega
      · go_wp2_with (at_lookup; refine wpList_lookup_set rfl _ _ 26 rfl Try.underlying3 Try.underlying4 Try.underlying26 zero4 hset rfl _ rfl (hr.wf k hlt) ?_)
        go_roundw
        case rel => exact ⟨k + 1, by omega, by go_num, by rw [keepN_hit hf], hfr⟩
        case measure => simp [intOf]; omega
    · obtain rfl : k = len := by omega
      go_wp2
      go_ret
      exact ⟨rfl, hfr⟩

/-- zzAnswerIs, at what Last answers. -/
theorem answer17 (a : Option Addr) (b off len cap : Nat) (g : Nat → Int) (n : Nat) (w : World) (hl : len ≤ 1048576) (hn : n ≤ len) (hr : RdI .i64 w a b off len g) :
    Calls Try.prog 17 #[.slice a len cap, .int .i64 ((n : Int) - 1), .int .i64 (lastOf g n), .bool (posB n)] w fun e w' => e = .returned (.bool true) ∧ w' = w := by
  by_cases h0 : n = 0
  · subst h0
    rw [show lastOf g 0 = 0 from rfl, posB_zero, show ((0 : Nat) : Int) - 1 = -1 from rfl]
    go_enter Try.func17, Try.ntmps17
    go_wp2
    go_ret
    exact ⟨rfl, rfl⟩
  · obtain rfl := hr.adr (by omega)
    have hc1 : w.cell? ⟨b, off + (n - 1), none⟩ = some (.int .i64 (g (n - 1))) := hr.cell (n - 1) (by omega)
    rw [show lastOf g n = g (n - 1) by simp [lastOf, h0], posB_pos h0]
    go_enter Try.func17, Try.ntmps17
    go_wp2
    go_ret
    exact ⟨by simp, rfl⟩

/-- zzSameInts, at two slices that hold the same. -/
theorem same18 (a0 : Option Addr) (b0 off0 len c0 : Nat) (a1 : Option Addr) (b1 off1 c1 : Nat) (g : Nat → Int) (w : World) (hl : len ≤ 1048576) (r0 : RdI .i64 w a0 b0 off0 len g) (r1 : RdI .i64 w a1 b1 off1 len g) :
    Calls Try.prog 18 #[.slice a0 len c0, .slice a1 len c1] w fun e w' => e = .returned (.bool true) ∧ Fr [] w w' := by
  go_enter Try.func18, Try.ntmps18
  go_wp2
  go_loopw [13] (fun i wr => ∃ k : Nat, k ≤ len ∧ i = .int .i64 k ∧ Fr [] w wr) (fun i _ => len - (intOf i).toNat)
  case atStart => exact ⟨0, Nat.zero_le _, rfl, Fr.refl _ _⟩
  case round =>
    obtain ⟨k, hk, rfl, hfr⟩ := hrel
    by_cases hlt : k < len
    · obtain rfl := r0.adr (by omega)
      obtain rfl := r1.adr (by omega)
      have hc1 : wr.cell? ⟨b0, off0 + k, none⟩ = some (.int .i64 (g k)) := hfr.cell (r0.cell k hlt) (by simp)
      have hc2 : wr.cell? ⟨b1, off1 + k, none⟩ = some (.int .i64 (g k)) := hfr.cell (r1.cell k hlt) (by simp)
      go_wp2
      go_quiet (fail)
      go_wp2
      go_roundw
      case rel => exact ⟨k + 1, by omega, by go_num, hfr.drewN _⟩
      case measure => simp [intOf]; omega
    · go_wp2
      go_ret
      exact ⟨rfl, hfr⟩

/-- The predicate that Last is given: membership. -/
theorem pred35 (X : Int) (bc bm n : Nat) (f : Int → Bool) (w : World) (hc : w.cell? ⟨bc, 0, none⟩ = some (.map (some bm))) (hs : SetAt Try.prog 3 4 .i64 w bm n f) (wx : (Lit.int .i64 X).wf = true) :
    Calls Try.prog 35 #[.int .i64 X, .pointer (some ⟨bc, 0, none⟩)] w fun e w' => e = .returned (.bool (f X)) ∧ w' = w := by
  go_enter Try.func35, Try.ntmps35
  go_wp2_with (at_lookup; refine wpList_lookup_set rfl _ _ 26 rfl Try.underlying3 Try.underlying4 Try.underlying26 zero4 hs rfl _ rfl wx ?_)
  go_ret
  exact ⟨rfl, rfl⟩

theorem one_cell {v : Value} : ∀ i, i < #[v].size → #[v][i]? = some v := by
  intro i hi
  have h : i = 0 := by simpa using hi
  subst h
  rfl

theorem new13 (a : Option Addr) (len cap : Nat) (w : World) :
    Calls Try.prog 13 #[.slice a len cap] w fun e w' => e = .returned (.pointer (some ⟨w.heap.size, 0, none⟩)) ∧ w'.rowIs w.heap.size 56 1 (fun _ => .slice a len cap) ∧ Fr [] w w' := by
  go_enter Try.func13, Try.ntmps13
  go_wp2
  go_ret
  exact ⟨rfl, World.rowIs_alloc w #[.slice a len cap] 56 _ one_cell, (Fr.refl _ _).alloc _⟩

theorem at15 (a : Option Addr) (len cap bw : Nat) (w : World) (hw : w.rowIs bw 56 1 (fun _ => .slice a len cap)) :
    Calls Try.prog 15 #[.pointer (some ⟨bw, 0, none⟩)] w fun e w' => e = .returned (.slice a len cap) ∧ w' = w := by
  have hc : w.cell? ⟨bw, 0, none⟩ = some (.slice a len cap) := hw.cell (by omega)
  go_enter Try.func15, Try.ntmps15
  go_wp2
  go_ret
  exact ⟨rfl, rfl⟩

end Go.Proofs.Qxb6613402a
