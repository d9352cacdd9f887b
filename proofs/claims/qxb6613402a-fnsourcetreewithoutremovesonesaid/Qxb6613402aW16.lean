import Derived.Test.Qxb6613402aW11
import Derived.Test.Qxb6613402aW14
import Derived.Test.Qxb6613402aW15
import Derived.Test.Qxb6613402aW2
import Derived.Test.Qxb6613402aBuilt
namespace Go.Proofs.Qxb6613402a
open Go.RowKit
open Go.Deep (BT)

theorem mk42 (w : World) : (Instr.makeSlice 42 (.int .i64 0) (.int .i64 0)).run Try.prog w = .ok (.slice (some ⟨w.heap.size, 0, none⟩) 0 0) (w.alloc (.cells #[] 4)) := by kernel_rfl
theorem mk54 (w : World) : (Instr.makeSlice 54 (.int .i64 0) (.int .i64 0)).run Try.prog w = .ok (.slice (some ⟨w.heap.size, 0, none⟩) 0 0) (w.alloc (.cells #[] 21)) := by kernel_rfl

set_option maxRecDepth 100000 in
set_option maxHeartbeats 400000 in
theorem check25z (vt : Value) (aw : Option Addr) (cw : Nat) (a0 : Option Addr) (c0 : Nat) (a1 : Option Addr) (c1 : Nat) (a2 : Option Addr) (c2 : Nat) (w : World) :
    Calls Try.prog 25 #[vt, .int .i32 (-1), .slice aw 0 cw, .slice a0 0 c0, .slice a1 0 c1, .slice a2 0 c2] w fun e w' => e = .returned (.bool true) ∧ Fr [] w w' := by
  have h1 := mk42
  have h2 := mk54
  go_enter Try.func25, Try.ntmps25
  go_wp2_with fail
  refine wp_loop_rounds 1 ?_
  rw [rounds_succ]
  go_wp2_with fail
  refine wp_loop_rounds 1 ?_
  rw [rounds_succ]
  go_wp2_with fail
  go_ret
  exact ⟨rfl, ((Fr.refl _ _).alloc _).alloc _⟩

set_option maxRecDepth 100000 in
set_option maxHeartbeats 1000000 in
theorem walk5 (a0 : Option Addr) (b0 o0 l0 c0 : Nat) (g0 : Nat → Int) (a1 : Option Addr) (b1 o1 l1 c1 : Nat) (g1 : Nat → Int) (a2 : Option Addr) (b2 o2 l2 c2 : Nat) (g2 : Nat → Int) (w : World)
    (m0 : l0 ≤ maxLen) (m1 : l1 ≤ maxLen) (m2 : l2 ≤ maxLen) (r0 : RdI .i64 w a0 b0 o0 l0 g0) (r1 : RdI .i64 w a1 b1 o1 l1 g1) (r2 : RdI .u64 w a2 b2 o2 l2 g2) :
    Calls Try.prog 5 #[.slice a0 l0 c0, .slice a1 l1 c1, .slice a2 l2 c2] w fun e w' => e = .returned (.bool true) ∧ Below w.heap.size w w' := by
  have HB : Hid _ := bytes20 a0 a1 a2 l0 c0 l1 c1 l2 c2 w m0 m1 m2
  unfold maxLen at m0 m1 m2
  by_cases hl1 : l1 = l0
  · obtain rfl : l0 = l1 := hl1.symm
    clear hl1
    by_cases hl2 : l2 = l0
    · obtain rfl : l0 = l2 := hl2.symm
      clear hl2 m1 m2
      go_enter Try.func5, Try.ntmps5
      go_wp2_with fail
      refine Calls.mono HB.out ?_
      rintro e w' ⟨⟨r, rfl⟩, hww⟩
      subst hww
      clear HB
      cases r
      · go_wp2_with fail
        go_ret
        exact ⟨rfl, Below.refl _ _⟩
      go_wp2_with fail
      · go_ret
        exact ⟨rfl, Below.refl _ _⟩
      have hn : l0 ≤ 4096 := by omega
      refine Calls.mono (dist21 a0 b0 o0 l0 c0 g0 _ (by omega) r0) ?_
      rintro e w1 ⟨⟨r, rfl, hd⟩, F1⟩
      cases r
      · go_wp2_with fail
        go_ret
        exact ⟨rfl, F1.below _ (Nat.le_refl _) (by simp)⟩
      have HD : Hid (DistG g0 l0) := hd rfl
      clear hd
      replace r0 := r0.fr F1 (by simp)
      replace r1 := r1.fr F1 (by simp)
      replace r2 := r2.fr F1 (by simp)
      go_wp2_with fail
      refine Calls.mono (clone11 a0 b0 o0 l0 c0 g0 _ (by omega) r0) ?_
      rintro e w2 ⟨a0', hA0, rfl, S0, F2⟩
      have G2 := F1.trans F2
      replace r1 := r1.fr F2 (by simp)
      replace r2 := r2.fr F2 (by simp)
      go_wp2_with fail
      refine Calls.mono (clone11 a1 b1 o1 l0 c1 g1 _ (by omega) r1) ?_
      rintro e w3 ⟨a1', hA1, rfl, S1, F3⟩
      have G3 := G2.trans F3
      replace r2 := r2.fr F3 (by simp)
      replace S0 := S0.fr F3 (by simp)
      go_wp2_with fail
      refine Calls.mono (clone22 a2 b2 o2 l0 c2 g2 _ (by omega) r2) ?_
      rintro e w4 ⟨a2', hA2, rfl, S2, F4⟩
      have G4 := G3.trans F4
      replace S0 := S0.fr F4 (by simp)
      replace S1 := S1.fr F4 (by simp)
      clear r0 r1 r2 F1 F2 F3 F4 G2 G3
      have d0 : 0 < l0 → w1.heap.size < w4.heap.size := fun h => S0.lt h
      have d1 : 0 < l0 → w2.heap.size < w4.heap.size := fun h => S1.lt h
      have d2 : 0 < l0 → w3.heap.size < w4.heap.size := fun h => S2.lt h
      go_wp2_with fail
      refine Calls.mono (build23 a0' _ 0 l0 _ g0 a1' _ 0 _ g1 a2' _ 0 _ g2 w4 hn S0 S1 S2) ?_
      rintro e w5 ⟨vN, vO, vT, rfl, hbd, F5⟩
      have G5 := G4.trans F5
      replace S0 := S0.fr F5 (by simp)
      replace S1 := S1.fr F5 (by simp)
      replace S2 := S2.fr F5 (by simp)
      have s4 := G4.size
      clear F5 G4
      generalize hB : w4.heap.size + 1 = B at hbd
      have HB4 : Hid (w4.heap.size + 1 = B) := hB
      clear hB
      rcases Nat.eq_zero_or_pos l0 with hn0 | hn0
      · subst hn0
        have h42 := mk42
        go_wp2_with fail
        refine wp_loop_rounds 1 ?_
        rw [rounds_succ]
        go_wp2_with fail
        refine wp_loop_rounds 1 ?_
        rw [rounds_succ]
        go_wp2_with fail
        refine Calls.mono (check25z _ _ _ _ _ _ _ _ _ _) ?_
        rintro e w6 ⟨rfl, F6⟩
        go_wp2_with fail
        go_ret
        exact ⟨rfl, ((G5.alloc _).trans F6).below _ (Nat.le_refl _) (by simp)⟩
      · obtain ⟨s, rfl, rfl, rfl, rfl, rfl, p1, p2, p3, hT⟩ := tree_of_build hbd hn0 hn
        have hbt : w'.heap.size < s.bt := by have := HB4.out; omega
        have hmk := run_make_row' (P := Try.prog) 42 4 (.bool false) 1 Try.underlying42 info4 rfl .i64 .i64 s.n (by omega) (by omega)
        clear hbd
        have hdist : ∀ i j, i < s.n → j < s.n → s.fi i = s.fi j → i = j := HD.out
        have HDD : Hid (∀ i j, i < s.n → j < s.n → s.fi i = s.fi j → i = j) := hdist
        clear hdist HD
        have q0 : w1.heap.size ∉ s.bs := by have := HB4.out; have := d0 hn0; simp [Sh.bs]; omega
        have q1 : w2.heap.size ∉ s.bs := by have := HB4.out; have := d1 hn0; simp [Sh.bs]; omega
        have q2 : w3.heap.size ∉ s.bs := by have := HB4.out; have := d2 hn0; simp [Sh.bs]; omega
        have hbs : ∀ x, x ∈ s.bs → x < w'.heap.size → x ∈ ([] : List Nat) := by intro x hx hl; simp [Sh.bs] at hx; omega
        have HQ : Hid (w1.heap.size ∉ s.bs ∧ w2.heap.size ∉ s.bs ∧ w3.heap.size ∉ s.bs ∧ (∀ x, x ∈ s.bs → x < w'.heap.size → x ∈ ([] : List Nat))) := ⟨q0, q1, q2, hbs⟩
        clear d0 d1 d2 q0 q1 q2 hbs
        go_wp2_with fail
        go_loopw [9, 10] (fun rt i wr => ∃ (k : Nat) (M : Mem) (t : BT Unit) (r : Int), k ≤ s.n ∧ i = .int .i64 k ∧ rt = .int .i32 r ∧ Built s (fun j => j < k) M t r ∧ TreeAt s wr M ∧ Fr s.bs w5 wr) (fun _ i _ => s.n - (intOf i).toNat)
        case atStart => exact ⟨0, M0 s.tx, .nil, -1, Nat.zero_le _, rfl, rfl, (built_none s).congr (by simp), hT, Fr.refl _ _⟩
        case round =>
          clear hT
          obtain ⟨k, M, t, r, hk, rfl, rfl, hbu, hT, hF⟩ := hrel
          by_cases hlt : k < s.n
          · have CI : Hid _ := zinsert24 s k hlt t M r wr hT hbu.in_ hbu.srt hbu.lt hbu.heap (hbu.ready hlt (by simp) HDD.out) (hbu.alone k hlt (by simp))
            go_wp2_with fail
            refine Calls.mono CI.out ?_
            rintro e w6 ⟨M', r', rfl, hio, hT', F6⟩
            clear CI
            obtain ⟨t', hbu'⟩ := hbu.ins hlt hio
            go_wp2_with fail
            go_roundw
            case rel => exact ⟨k + 1, M', t', r', by omega, by go_num, rfl, hbu'.congr (fun j => by omega), hT', hF.trans F6⟩
            case measure => simp [intOf]; omega
          · obtain rfl : k = s.n := by omega
            go_wp2_with fail
            rename World => wq
            go_loopw [68] (fun i wx => ∃ (k : Nat) (f : Nat → Value), k ≤ s.n ∧ i = .int .i64 k ∧ wx.rowIs wq.heap.size 4 s.n f ∧ (∀ j, j < k → f j = .bool true) ∧ Fr [] wq wx) (fun i _ => s.n - (intOf i).toNat)
            case atStart => exact ⟨0, _, Nat.zero_le _, rfl, World.rowIs_made _ _ _ _, fun j hj => by omega, (Fr.refl _ _).alloc _⟩
            case round =>
              obtain ⟨k, f, hk, rfl, hrow, hf, hF6⟩ := hrel
              have H : Hid (∀ j, j < k → f j = .bool true) := hf
              clear hf
              by_cases hlt : k < s.n
              · have hc2 : wr.cell? ⟨wq.heap.size, k, none⟩ = some (f k) := hrow.cell hlt
                have hc3 : wr.frozen? ⟨wq.heap.size, k, none⟩ = false := hrow.frozen k
                go_wp2_with fail
                go_roundw
                case rel =>
                  refine ⟨k + 1, _, by omega, by go_num, hrow.set k _, fun j hj => ?_, hF6.setCell (.inr (Nat.le_refl _)) _⟩
                  by_cases e : j = k
                  · subst e; simp
                  · rw [if_neg e]; exact H.out j (by omega)
                case measure => simp [intOf]; omega
              · have hR : RdB wr (some ⟨wq.heap.size, 0, none⟩) wq.heap.size 0 s.n (fun _ => true) := ⟨fun _ => rfl, fun i hi => by rw [Nat.zero_add, hrow.cell hi, H.out i (by omega)]⟩
                have G6 : Fr s.bs w5 wr := hF.trans (hF6.mono (by simp))
                have CC : Hid _ := check25 s M t r _ _ 0 s.n _ a0' _ 0 s.n a1' _ 0 s.n a2' _ 0 s.n wr (hT.fr0 hF6) hbu.in_ hbu.srt hbu.heap hbu.lt hn0 (fun i hi => by rw [hbu.mem i]; simp [hi]) hR (S0.fr G6 (fun _ => HQ.out.1)) (S1.fr G6 (fun _ => HQ.out.2.1)) (S2.fr G6 (fun _ => HQ.out.2.2.1))
                go_wp2_with fail
                refine Calls.mono CC.out ?_
                rintro e w8 ⟨rfl, F8⟩
                go_wp2_with fail
                go_ret
                exact ⟨rfl, ((G5.transNew G6 HQ.out.2.2.2).trans F8).below _ (Nat.le_refl _) (by simp)⟩
    · go_enter Try.func5, Try.ntmps5
      go_wp2_with fail
      refine Calls.mono HB.out ?_
      rintro e w' ⟨⟨r, rfl⟩, hww⟩
      subst hww
      cases r
      all_goals
        go_wp2_with fail
      all_goals (go_ret; exact ⟨rfl, Below.refl _ _⟩)
  · go_enter Try.func5, Try.ntmps5
    go_wp2_with fail
    refine Calls.mono HB.out ?_
    rintro e w' ⟨⟨r, rfl⟩, hww⟩
    subst hww
    cases r
    all_goals
      go_wp2_with fail
    all_goals (go_ret; exact ⟨rfl, Below.refl _ _⟩)

end Go.Proofs.Qxb6613402a
