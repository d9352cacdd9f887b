import Derived.Test.Qxb6613559aW4
import Derived.Test.Qxb6613559aRow
namespace Go.Proofs.Qxb6613559a
open Go.RowKit

theorem mk22 (w : World) : (Instr.makeSlice 22 (.int .i64 0) (.int .i64 0)).run Try.prog w = .ok (.slice (some ⟨w.heap.size, 0, none⟩) 0 0) (w.alloc (.cells #[] 4)) := by kernel_rfl

set_option maxRecDepth 100000 in
set_option maxHeartbeats 2000000 in
theorem walk4 (a : Option Addr) (b off n cap : Nat) (m : Nat → Bool) (a1 : Option Addr) (b1 o1 l1 c1 : Nat) (g1 : Nat → Int) (w : World) (m0 : n ≤ maxLen) (m1 : l1 ≤ maxLen) (r : RdB w a b off n m) (r1 : RdI .i64 w a1 b1 o1 l1 g1) :
    Calls Try.prog 4 #[.slice a n cap, .slice a1 l1 c1] w fun e w' => e = .returned (.bool true) ∧ Below w.heap.size w w' := by
  have HB : Hid _ := bytes13 a a1 n cap l1 c1 w m0 m1
  unfold maxLen at m0 m1
  by_cases hn : n ≤ 4096
  · by_cases hl : l1 ≤ 4096
    · clear m0 m1
      cases a with
      | none =>
        have hz : n = 0 := by
          rcases Nat.eq_zero_or_pos n with h | h
          · exact h
          · have := r.adr h; cases this
        clear r
        subst hz
        have hmk := mk22
        rcases Nat.eq_zero_or_pos l1 with h1 | h1
        · subst h1
          go_enter Try.func4, Try.ntmps4
          go_wp2_with fail
          refine Calls.mono HB.out ?_
          rintro e w' ⟨⟨r, rfl⟩, hww⟩
          subst hww
          clear HB
          cases r
          · go_wp2_with fail
            go_ret
            exact ⟨rfl, Below.refl _ _⟩
          go_wp2_with fail
          refine wp_loop_rounds 1 ?_
          rw [rounds_succ]
          go_wp2_with fail
          refine wp_loop_rounds 1 ?_
          rw [rounds_succ]
          go_wp2_with fail
          refine Calls.mono (new8 none 0 0 0 _ m _ (by omega) ⟨fun h => by omega, fun i h => by omega⟩) ?_
          rintro e w3 ⟨rfl, hR, F3⟩
          go_wp2_with fail
          refine wp_loop_rounds 1 ?_
          rw [rounds_succ]
          go_wp2_with fail
          refine wp_loop_rounds 1 ?_
          rw [rounds_succ]
          go_wp2_with fail
          go_ret
          exact ⟨rfl, (((Fr.refl [] _).alloc _).trans F3).below _ (Nat.le_refl _) (by simp)⟩
        · obtain rfl := r1.adr h1
          have c0 : w.cell? ⟨b1, o1, none⟩ = some (.int .i64 (g1 0)) := r1.cell 0 h1
          clear hmk
          by_cases h0 : g1 0 < 0
          · go_enter Try.func4, Try.ntmps4
            go_wp2_with fail
            refine Calls.mono HB.out ?_
            rintro e w' ⟨⟨r, rfl⟩, hww⟩
            subst hww
            clear HB
            cases r
            · go_wp2_with fail
              go_ret
              exact ⟨rfl, Below.refl _ _⟩
            go_wp2_with fail
            refine wp_loop_rounds 1 ?_
            rw [rounds_succ]
            go_wp2_with fail
            go_ret
            exact ⟨rfl, Below.refl _ _⟩
          · have h0' : 0 ≤ g1 0 := by omega
            go_enter Try.func4, Try.ntmps4
            go_wp2_with fail
            refine Calls.mono HB.out ?_
            rintro e w' ⟨⟨r, rfl⟩, hww⟩
            subst hww
            clear HB
            cases r
            · go_wp2_with fail
              go_ret
              exact ⟨rfl, Below.refl _ _⟩
            go_wp2_with fail
            refine wp_loop_rounds 1 ?_
            rw [rounds_succ]
            go_wp2_with fail
            go_ret
            exact ⟨rfl, Below.refl _ _⟩
      | some x =>
        have hmk := run_make_row' (P := Try.prog) 22 4 (.bool false) 1 Try.underlying22 info4 rfl .i64 .i64 n (by omega) (by omega)
        obtain ⟨w2, hcp, S0, G2⟩ := copy_mask w _ b off n cap m r
        replace r1 := r1.fr G2 (by simp)
        have l0 : 0 < n → w.heap.size < w2.heap.size := fun h => S0.lt h
        have HL : Hid (0 < l1 → b1 < w2.heap.size) := fun h => r1.lt h
        clear r
        go_enter Try.func4, Try.ntmps4
        go_wp2_with fail
        refine Calls.mono HB.out ?_
        rintro e w' ⟨⟨r, rfl⟩, hww⟩
        subst hww
        clear HB
        cases r
        · go_wp2_with fail
          go_ret
          exact ⟨rfl, Below.refl _ _⟩
        go_wp2_with fail
        clear hcp
        go_loopw [6] (fun i wx => ∃ k : Nat, k ≤ l1 ∧ i = .int .i64 k ∧ (∀ j, j < k → 0 ≤ g1 j ∧ g1 j < (n : Int)) ∧ Fr [] w2 wx) (fun i _ => l1 - (intOf i).toNat)
        case atStart => exact ⟨0, Nat.zero_le _, rfl, fun j hj => by omega, Fr.refl _ _⟩
        case round =>
          obtain ⟨k, hk, rfl, hall, hF⟩ := hrel
          have HA : Hid (∀ j, j < k → 0 ≤ g1 j ∧ g1 j < (n : Int)) := hall
          clear hall
          by_cases hlt : k < l1
          · obtain rfl := r1.adr (by omega)
            have hki : (k : Int) < (l1 : Int) := by omega
            have c0 : wr.cell? ⟨b1, o1 + k, none⟩ = some (.int .i64 (g1 k)) := hF.cell (r1.cell k hlt) (by simp)
            by_cases hx : 0 ≤ g1 k ∧ g1 k < n
            · obtain ⟨kk, ekk⟩ : ∃ kk : Nat, g1 k = (kk : Int) := ⟨(g1 k).toNat, by omega⟩
              have hkk : (kk : Int) < (n : Int) := by omega
              have hkn : kk < n := by omega
              have HX : Hid (0 ≤ g1 k ∧ g1 k < (n : Int)) := hx
              rw [ekk] at c0
              clear hx ekk
              go_wp2_with fail
              go_roundw
              case rel =>
                refine ⟨k + 1, by omega, by go_num, fun j hj => ?_, hF⟩
                by_cases e : j = k
                · rw [e]; exact HX.out
                · exact HA.out j (by omega)
              case measure => simp [intOf]; omega
            · have hx' : g1 k < 0 ∨ (n : Int) ≤ g1 k := by omega
              clear hx
              rcases hx' with hx' | hx'
              · go_wp2_with fail
                go_ret
                exact ⟨rfl, (G2.trans hF).below _ (Nat.le_refl _) (by simp)⟩
              · have hx'' : ¬ g1 k < 0 := by omega
                go_wp2_with fail
                go_ret
                exact ⟨rfl, (G2.trans hF).below _ (Nat.le_refl _) (by simp)⟩
          · obtain rfl : k = l1 := by omega
            rename World => wA
            replace S0 := S0.fr hF (by simp)
            replace r1 := r1.fr hF (by simp)
            have GA := G2.trans hF
            have sA := hF.size
            have sA' := GA.size
            clear hF G2
            go_wp2_with fail
            go_loopw [8] (fun i wx => ∃ (k : Nat) (f : Nat → Value), k ≤ n ∧ i = .int .i64 k ∧ wx.rowIs wA.heap.size 4 n f ∧ (∀ j, j < k → f j = .bool (m j)) ∧ Fr [] wA wx) (fun i _ => n - (intOf i).toNat)
            case atStart => exact ⟨0, _, Nat.zero_le _, rfl, World.rowIs_made _ _ _ _, fun j hj => by omega, (Fr.refl _ _).alloc _⟩
            case round =>
              obtain ⟨q, f, hq, rfl, hrow, hf, hF⟩ := hrel
              have H : Hid (∀ j, j < q → f j = .bool (m j)) := hf
              clear hf hmk
              by_cases hlt : q < n
              · have hqi : (q : Int) < (n : Int) := by omega
                have c0 : wr.cell? ⟨w'.heap.size, q, none⟩ = some (.bool (m q)) := by have := hF.cell (S0.cell q hlt) (by simp); rwa [Nat.zero_add] at this
                have hc2 : wr.cell? ⟨wA.heap.size, q, none⟩ = some (f q) := hrow.cell hlt
                have hc3 : wr.frozen? ⟨wA.heap.size, q, none⟩ = false := hrow.frozen q
                go_wp2_with fail
                go_roundw
                case rel =>
                  refine ⟨q + 1, _, by omega, by go_num, hrow.set q _, fun j hj => ?_, hF.setCell (.inr (Nat.le_refl _)) _⟩
                  by_cases e : j = q
                  · subst e; simp
                  · rw [if_neg e]; exact H.out j (by omega)
                case measure => simp [intOf]; omega
              · obtain rfl : q = n := by omega
                rename World => wB
                replace S0 := S0.fr hF (by simp)
                replace r1 := r1.fr hF (by simp)
                have GB := GA.trans hF
                have lA := hrow.lt
                clear GA
                go_wp2_with fail
                refine Calls.mono (new8 _ _ 0 q q m wB hn S0) ?_
                rintro e wC ⟨rfl, hR, FC⟩
                replace hrow := FC.row hrow (by simp)
                replace r1 := r1.fr FC (by simp)
                have GC := GB.trans FC
                have sB := hF.size
                have sC := GC.size
                generalize hbq : wB.heap.size = bq at hR
                have HBQ : Hid (wB.heap.size = bq) := hbq
                generalize hBA : wA.heap.size = BA at hrow
                have HBA : Hid (wA.heap.size = BA) := hBA
                clear hbq hBA
                have hS : (0 < k → b1 ∉ [bq + 1, bq, BA]) ∧ (BA ∉ [bq + 1, bq]) ∧ (∀ y, y ∈ [bq + 1, bq, BA] → y < w'.heap.size → y ∈ ([] : List Nat)) := by
                  have e1 := HBQ.out
                  have e2 := HBA.out
                  have e3 := HL.out
                  have s2 := GB.size
                  refine ⟨fun h => ?_, ?_, ?_⟩
                  · have := e3 h; simp; omega
                  · simp; omega
                  · intro y hy hl; simp at hy; omega
                have HS : Hid ((0 < k → b1 ∉ [bq + 1, bq, BA]) ∧ (BA ∉ [bq + 1, bq]) ∧ (∀ y, y ∈ [bq + 1, bq, BA] → y < w'.heap.size → y ∈ ([] : List Nat))) := hS
                clear hS
                have hrow0 : ∃ f, wC.rowIs BA 4 q f ∧ ∀ j, j < q → f j = .bool (m j) := ⟨f, hrow, H.out⟩
                clear hrow H FC GB S0 l0 sA sA' sB
                go_wp2_with fail
                go_loopw [10] (fun i wx => ∃ (p : Nat) (A : Nat → Bool), p ≤ k ∧ i = .int .i64 p ∧ RoundAt wx (bq + 1) bq q m A A ∧ (∃ f, wx.rowIs BA 4 q f ∧ ∀ j, j < q → f j = .bool (A j)) ∧ Fr [bq + 1, bq, BA] wC wx) (fun i _ => k - (intOf i).toNat)
                case atStart => exact ⟨0, m, Nat.zero_le _, rfl, hR, hrow0, Fr.refl _ _⟩
                case round =>
                  clear hR hrow0
                  obtain ⟨p, A, hp, rfl, hR, ⟨f, hrow, hf⟩, hF3⟩ := hrel
                  have H : Hid (∀ j, j < q → f j = .bool (A j)) := hf
                  clear hf
                  by_cases hlt : p < k
                  · obtain rfl := r1.adr (by omega)
                    have hpi : (p : Int) < (k : Int) := by omega
                    have c0 : wr.cell? ⟨b1, o1 + p, none⟩ = some (.int .i64 (g1 p)) := hF3.cell (r1.cell p hlt) (HS.out.1 (by omega))
                    obtain ⟨kk, ekk⟩ : ∃ kk : Nat, g1 p = (kk : Int) := ⟨(g1 p).toNat, by have := HA.out p hlt; omega⟩
                    have hkk : (kk : Int) < (q : Int) := by have := HA.out p hlt; omega
                    have hkn : kk < q := by omega
                    rw [ekk] at c0
                    clear ekk
                    have C9 : Hid _ := gave9 wr (bq + 1) bq q kk m A A hR hkn
                    go_wp2_with fail
                    refine Calls.mono C9.out ?_
                    rintro e w6 ⟨rfl, hR6, F6⟩
                    clear C9 c0
                    replace hrow := F6.row hrow HS.out.2.1
                    have k1 : w6.cell? ⟨BA, kk, none⟩ = some (.bool (A kk)) := by rw [hrow.cell hkn, H.out kk hkn]
                    have k2 : w6.frozen? ⟨BA, kk, none⟩ = false := hrow.frozen kk
                    have K6 : Fr [bq + 1, bq, BA] wC w6 := hF3.trans (F6.mono (by intro y hy _; simp at hy ⊢; omega))
                    go_wp2_with fail
                    go_roundw
                    case rel =>
                      refine ⟨p + 1, updB A kk false, by omega, by go_num, hR6.fr (S := [BA]) ((Fr.refl _ _).setCell (.inl (by simp)) _) ?_ ?_, ⟨_, hrow.set kk _, fun j hj => ?_⟩, K6.setCell (.inl (by simp)) _⟩
                      · have := HS.out.2.1; simp at this ⊢; omega
                      · have := HS.out.2.1; simp at this ⊢; omega
                      · by_cases e : j = kk
                        · subst e; simp [updB]
                        · rw [if_neg e, H.out j hj, updB_other _ _ e]
                    case measure => simp [intOf]; omega
                  · obtain rfl : p = k := by omega
                    rename World => wD
                    have GD : Fr [] w' wD := GC.transNew hF3 HS.out.2.2
                    clear hF3 GC
                    go_wp2_with fail
                    go_loopw [13] (fun i wx => ∃ s : Nat, s ≤ q ∧ i = .int .i64 s ∧ Fr [] wD wx) (fun i _ => q - (intOf i).toNat)
                    case atStart => exact ⟨0, Nat.zero_le _, rfl, Fr.refl _ _⟩
                    case round =>
                      obtain ⟨s, hs, rfl, hF4⟩ := hrel
                      by_cases hlt : s < q
                      · have hsi : (s : Int) < (q : Int) := by omega
                        have c0 : wr.cell? ⟨BA, s, none⟩ = some (.bool (A s)) := by rw [(hF4.row hrow (by simp)).cell hlt, H.out s hlt]
                        have hRr := hR.fr hF4 (by simp) (by simp)
                        go_wp2_with fail
                        go_region_held (fun wz => wz.cell? ⟨BA, s, none⟩ = some (.bool (A s))) (go_keep)
                          ((go_at_call 10; refine Calls.mono (held10 _ (bq + 1) bq q s _ _ _ (hRr.fr ((Fr.refl [] _).drew) (by simp) (by simp)) hlt) ?_; rintro e w7 ⟨rfl, rfl⟩))
                        go_wp2_with fail
                        go_roundw
                        case rel => exact ⟨s + 1, by omega, by go_num, hF4.drew⟩
                        case measure => simp [intOf]; omega
                      · go_wp2_with fail
                        go_ret
                        exact ⟨rfl, (GD.trans hF4).below _ (Nat.le_refl _) (by simp)⟩
    · go_enter Try.func4, Try.ntmps4
      go_wp2_with fail
      refine Calls.mono HB.out ?_
      rintro e w' ⟨⟨r, rfl⟩, hww⟩
      subst hww
      cases r
      all_goals
        go_wp2_with fail
      all_goals (go_ret; exact ⟨rfl, Below.refl _ _⟩)
  · go_enter Try.func4, Try.ntmps4
    go_wp2_with fail
    refine Calls.mono HB.out ?_
    rintro e w' ⟨⟨r, rfl⟩, hww⟩
    subst hww
    cases r
    all_goals
      go_wp2_with fail
    all_goals (go_ret; exact ⟨rfl, Below.refl _ _⟩)

end Go.Proofs.Qxb6613559a
