import Derived.Test.Qxb6613402aW16
import Derived.Test.Qxb6613402aUniq
import Derived.Test.Qxb6613402aW20
namespace Go.Proofs.Qxb6613402a
open Go.RowKit
open Go.Deep (BT)

set_option maxRecDepth 100000 in
set_option maxHeartbeats 1000000 in
theorem walk7 (a0 : Option Addr) (b0 o0 l0 c0 : Nat) (g0 : Nat → Int) (a1 : Option Addr) (b1 o1 l1 c1 : Nat) (g1 : Nat → Int) (a2 : Option Addr) (b2 o2 l2 c2 : Nat) (g2 : Nat → Int) (x : Int) (w : World)
    (m0 : l0 ≤ maxLen) (m1 : l1 ≤ maxLen) (m2 : l2 ≤ maxLen) (r0 : RdI .i64 w a0 b0 o0 l0 g0) (r1 : RdI .i64 w a1 b1 o1 l1 g1) (r2 : RdI .u64 w a2 b2 o2 l2 g2) :
    Calls Try.prog 7 #[.slice a0 l0 c0, .slice a1 l1 c1, .slice a2 l2 c2, .int .i64 x] w fun e w' => e = .returned (.bool true) ∧ Below w.heap.size w w' := by
  have HB : Hid _ := bytes31 a0 a1 a2 l0 c0 l1 c1 l2 c2 x w m0 m1 m2
  unfold maxLen at m0 m1 m2
  by_cases hl1 : l1 = l0
  · obtain rfl : l0 = l1 := hl1.symm
    clear hl1
    by_cases hl2 : l2 = l0
    · obtain rfl : l0 = l2 := hl2.symm
      clear hl2 m1 m2
      by_cases hx : 0 ≤ x ∧ x < l0
      · obtain ⟨hx0, hx1⟩ := hx
        obtain ⟨kk, rfl⟩ : ∃ kk : Nat, x = (kk : Int) := ⟨x.toNat, by omega⟩
        have hkk : kk < l0 := by omega
        have hn0 : 0 < l0 := by omega
        go_enter Try.func7, Try.ntmps7
        go_wp2_with fail
        refine Calls.mono HB.out ?_
        rintro e w' ⟨⟨r, rfl⟩, hww⟩
        subst hww
        clear HB
        cases r
        · go_wp2_with fail
          go_ret
          exact ⟨rfl, Below.refl _ _⟩
        go_wp2_with fail
        · go_ret
          exact ⟨rfl, Below.refl _ _⟩
        have hn : l0 ≤ 4096 := by omega
        refine Calls.mono (dist21 a0 b0 o0 l0 c0 g0 _ (by omega) r0) ?_
        rintro e w1 ⟨⟨r, rfl, hd⟩, F1⟩
        cases r
        · go_wp2_with fail
          go_ret
          exact ⟨rfl, F1.below _ (Nat.le_refl _) (by simp)⟩
        have HD : Hid (DistG g0 l0) := hd rfl
        clear hd
        replace r0 := r0.fr F1 (by simp)
        replace r1 := r1.fr F1 (by simp)
        replace r2 := r2.fr F1 (by simp)
        go_wp2_with fail
        refine Calls.mono (clone11 a0 b0 o0 l0 c0 g0 _ (by omega) r0) ?_
        rintro e w2 ⟨a0', hA0, rfl, S0, F2⟩
        have G2 := F1.trans F2
        replace r1 := r1.fr F2 (by simp)
        replace r2 := r2.fr F2 (by simp)
        go_wp2_with fail
        refine Calls.mono (clone11 a1 b1 o1 l0 c1 g1 _ (by omega) r1) ?_
        rintro e w3 ⟨a1', hA1, rfl, S1, F3⟩
        have G3 := G2.trans F3
        replace r2 := r2.fr F3 (by simp)
        replace S0 := S0.fr F3 (by simp)
        go_wp2_with fail
        refine Calls.mono (clone22 a2 b2 o2 l0 c2 g2 _ (by omega) r2) ?_
        rintro e w4 ⟨a2', hA2, rfl, S2, F4⟩
        have G4 := G3.trans F4
        replace S0 := S0.fr F4 (by simp)
        replace S1 := S1.fr F4 (by simp)
        clear r0 r1 r2 F1 F2 F3 F4 G2 G3
        have d0 : w1.heap.size < w4.heap.size := S0.lt hn0
        have d1 : w2.heap.size < w4.heap.size := S1.lt hn0
        have d2 : w3.heap.size < w4.heap.size := S2.lt hn0
        go_wp2_with fail
        refine Calls.mono (build23 a0' _ 0 l0 _ g0 a1' _ 0 _ g1 a2' _ 0 _ g2 w4 hn S0 S1 S2) ?_
        rintro e w5 ⟨vN, vO, vT, rfl, hbd, F5⟩
        have G5 := G4.trans F5
        replace S0 := S0.fr F5 (by simp)
        replace S1 := S1.fr F5 (by simp)
        replace S2 := S2.fr F5 (by simp)
        have s4 := G4.size
        clear F5 G4
        generalize hB : w4.heap.size + 1 = B at hbd
        have HB4 : Hid (w4.heap.size + 1 = B) := hB
        clear hB
        obtain ⟨s, rfl, rfl, rfl, rfl, rfl, p1, p2, p3, hT⟩ := tree_of_build hbd hn0 hn
        have hbt : w'.heap.size < s.bt := by have := HB4.out; omega
        have hmk := run_make_row' (P := Try.prog) 42 4 (.bool false) 1 Try.underlying42 info4 rfl .i64 .i64 s.n (by omega) (by omega)
        clear hbd
        have hdist : ∀ i j, i < s.n → j < s.n → s.fi i = s.fi j → i = j := HD.out
        have HDD : Hid (∀ i j, i < s.n → j < s.n → s.fi i = s.fi j → i = j) := hdist
        clear hdist HD
        have q0 : w1.heap.size ∉ s.bs := by have := HB4.out; simp [Sh.bs]; omega
        have q1 : w2.heap.size ∉ s.bs := by have := HB4.out; simp [Sh.bs]; omega
        have q2 : w3.heap.size ∉ s.bs := by have := HB4.out; simp [Sh.bs]; omega
        have hbs : ∀ x, x ∈ s.bs → x < w'.heap.size → x ∈ ([] : List Nat) := by intro x hx hl; simp [Sh.bs] at hx; omega
        have HQ : Hid (w1.heap.size ∉ s.bs ∧ w2.heap.size ∉ s.bs ∧ w3.heap.size ∉ s.bs ∧ (∀ x, x ∈ s.bs → x < w'.heap.size → x ∈ ([] : List Nat))) := ⟨q0, q1, q2, hbs⟩
        clear d0 d1 d2 q0 q1 q2 hbs
        obtain rfl := S0.adr hn0
        go_wp2_with fail
        go_loopw [11, 12] (fun rt i wr => ∃ (k : Nat) (M : Mem) (t : BT Unit) (r : Int), k ≤ s.n ∧ i = .int .i64 k ∧ rt = .int .i32 r ∧ Built s (fun j => j < k) M t r ∧ TreeAt s wr M ∧ Fr s.bs w5 wr) (fun _ i _ => s.n - (intOf i).toNat)
        case atStart => exact ⟨0, M0 s.tx, .nil, -1, Nat.zero_le _, rfl, rfl, (built_none s).congr (by simp), hT, Fr.refl _ _⟩
        case round =>
          clear hT
          obtain ⟨k, M, t, r, hk, rfl, rfl, hbu, hT, hF⟩ := hrel
          by_cases hlt : k < s.n
          · have CI : Hid _ := zinsert24 s k hlt t M r wr hT hbu.in_ hbu.srt hbu.lt hbu.heap (hbu.ready hlt (by simp) HDD.out) (hbu.alone k hlt (by simp))
            go_wp2_with fail
            refine Calls.mono CI.out ?_
            rintro e w6 ⟨M', r', rfl, hio, hT', F6⟩
            clear CI
            obtain ⟨t', hbu'⟩ := hbu.ins hlt hio
            go_wp2_with fail
            go_roundw
            case rel => exact ⟨k + 1, M', t', r', by omega, by go_num, rfl, hbu'.congr (fun j => by omega), hT', hF.trans F6⟩
            case measure => simp [intOf]; omega
          · obtain rfl : k = s.n := by omega
            rename World => wp0
            replace S0 := S0.fr hF (fun _ => HQ.out.1)
            have hc0 : wp0.cell? ⟨w1.heap.size, kk, none⟩ = some (.int .i64 (s.fi kk)) := by have := S0.cell kk hkk; rwa [Nat.zero_add] at this
            have CW : Hid _ := zwithout32 s kk t M r wp0 hT hbu.in_ hbu.srt hbu.lt hbu.heap ((hbu.mem kk).2 hkk)
            go_wp2_with fail
            refine Calls.mono CW.out ?_
            rintro e wq ⟨M', r', rfl, hwo, hT', FW⟩
            clear CW hc0
            obtain ⟨t', hin', hsrt', hheap', hmem'⟩ := hbu.wo hwo
            have hlt' : ∀ j ∈ keys t', j < s.n := fun j hj => ((hmem' j).1 hj).1
            have hF' : Fr s.bs w5 wq := hF.trans FW
            have HM : Hid (∀ j, j ∈ keys t' ↔ j < s.n ∧ j ≠ kk) := hmem'
            replace S0 := S0.fr FW (fun _ => HQ.out.1)
            clear hwo hbu hT hF FW hmem'
            go_wp2_with fail
            go_loopw [85] (fun i wx => ∃ (k : Nat) (f : Nat → Value), k ≤ s.n ∧ i = .int .i64 k ∧ wx.rowIs wq.heap.size 4 s.n f ∧ (∀ j, j < k → f j = .bool (decide (j ≠ kk))) ∧ Fr [] wq wx) (fun i _ => s.n - (intOf i).toNat)
            case atStart => exact ⟨0, _, Nat.zero_le _, rfl, World.rowIs_made _ _ _ _, fun j hj => by omega, (Fr.refl _ _).alloc _⟩
            case round =>
              obtain ⟨k, f, hk, rfl, hrow, hf, hF6⟩ := hrel
              have H : Hid (∀ j, j < k → f j = .bool (decide (j ≠ kk))) := hf
              clear hf
              by_cases hlt : k < s.n
              · have hc2 : wr.cell? ⟨wq.heap.size, k, none⟩ = some (f k) := hrow.cell hlt
                have hc3 : wr.frozen? ⟨wq.heap.size, k, none⟩ = false := hrow.frozen k
                by_cases hkj : k = kk
                · have hki : ((k : Nat) : Int) = ((kk : Nat) : Int) := by omega
                  have HK : Hid (k = kk) := hkj
                  subst hkj
                  go_wp2_with fail
                  go_roundw
                  case rel =>
                    refine ⟨k + 1, _, by omega, by go_num, hrow.set k _, fun j hj => ?_, hF6.setCell (.inr (Nat.le_refl _)) _⟩
                    by_cases e : j = k
                    · subst e; simp
                    · rw [if_neg e]; exact H.out j (by omega)
                  case measure => simp [intOf]; omega
                · have hki : ((k : Nat) : Int) ≠ ((kk : Nat) : Int) := by omega
                  go_wp2_with fail
                  go_roundw
                  case rel =>
                    refine ⟨k + 1, _, by omega, by go_num, hrow.set k _, fun j hj => ?_, hF6.setCell (.inr (Nat.le_refl _)) _⟩
                    by_cases e : j = k
                    · subst e; simp [hkj]; omega
                    · rw [if_neg e]; exact H.out j (by omega)
                  case measure => simp [intOf]; omega
              · have hR : RdB wr (some ⟨wq.heap.size, 0, none⟩) wq.heap.size 0 s.n (fun j => decide (j ≠ kk)) := ⟨fun _ => rfl, fun i hi => by rw [Nat.zero_add, hrow.cell hi, H.out i (by omega)]⟩
                have G6 : Fr s.bs w5 wr := hF'.trans (hF6.mono (by simp))
                have CC : Hid _ := check25 s M' t' r' _ _ 0 s.n _ _ _ 0 s.n a1' _ 0 s.n a2' _ 0 s.n wr (hT'.fr0 hF6) hin' hsrt' hheap' hlt' hn0 (fun i hi => by rw [HM.out i]; simp [hi]) hR (S0.fr hF6 (by simp)) (S1.fr G6 (fun _ => HQ.out.2.1)) (S2.fr G6 (fun _ => HQ.out.2.2.1))
                go_wp2_with fail
                refine Calls.mono CC.out ?_
                rintro e w8 ⟨rfl, F8⟩
                go_wp2_with fail
                go_ret
                exact ⟨rfl, ((G5.transNew G6 HQ.out.2.2.2).trans F8).below _ (Nat.le_refl _) (by simp)⟩
      · have hx' : x < 0 ∨ (l0 : Int) ≤ x := by omega
        clear hx
        rcases hx' with hx' | hx'
        · have hxx : ¬ 0 ≤ x := by omega
          go_enter Try.func7, Try.ntmps7
          go_wp2_with fail
          refine Calls.mono HB.out ?_
          rintro e w' ⟨⟨r, rfl⟩, hww⟩
          subst hww
          cases r
          all_goals
            go_wp2_with fail
          all_goals (go_ret; exact ⟨rfl, Below.refl _ _⟩)
        · go_enter Try.func7, Try.ntmps7
          go_wp2_with fail
          refine Calls.mono HB.out ?_
          rintro e w' ⟨⟨r, rfl⟩, hww⟩
          subst hww
          cases r
          all_goals
            go_wp2_with fail
          all_goals (go_ret; exact ⟨rfl, Below.refl _ _⟩)
    · go_enter Try.func7, Try.ntmps7
      go_wp2_with fail
      refine Calls.mono HB.out ?_
      rintro e w' ⟨⟨r, rfl⟩, hww⟩
      subst hww
      cases r
      all_goals
        go_wp2_with fail
      all_goals (go_ret; exact ⟨rfl, Below.refl _ _⟩)
  · go_enter Try.func7, Try.ntmps7
    go_wp2_with fail
    refine Calls.mono HB.out ?_
    rintro e w' ⟨⟨r, rfl⟩, hww⟩
    subst hww
    cases r
    all_goals
      go_wp2_with fail
    all_goals (go_ret; exact ⟨rfl, Below.refl _ _⟩)

end Go.Proofs.Qxb6613402a
