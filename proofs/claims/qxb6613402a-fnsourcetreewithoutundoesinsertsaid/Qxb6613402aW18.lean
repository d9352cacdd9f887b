import Derived.Test.Qxb6613402aW2
import Derived.Test.Qxb6613402aW11
import Derived.Test.Qxb6613402aW13
import Derived.Test.Qxb6613402aW15
import Derived.Test.Qxb6613402aW17
namespace Go.Proofs.Qxb6613402a
open Go.RowKit
open Go.Deep (BT)

theorem TreeAt.lts {s : Sh} {w : World} {M : Mem} (h : TreeAt s w M) : s.bt < w.heap.size ∧ s.bn < w.heap.size ∧ s.bo < w.heap.size ∧ s.bp < w.heap.size := by
  obtain ⟨f1, r1, _⟩ := h.nodes
  obtain ⟨f2, r2, _⟩ := h.own
  obtain ⟨f3, r3, _⟩ := h.top
  exact ⟨h.head.lt, r1.lt, r2.lt, r3.lt⟩

set_option maxRecDepth 100000 in
set_option maxHeartbeats 2000000 in
theorem walk6 (a0 : Option Addr) (b0 o0 l0 c0 : Nat) (g0 : Nat → Int) (a1 : Option Addr) (b1 o1 l1 c1 : Nat) (g1 : Nat → Int) (a2 : Option Addr) (b2 o2 l2 c2 : Nat) (g2 : Nat → Int) (x : Int) (w : World)
    (m0 : l0 ≤ maxLen) (m1 : l1 ≤ maxLen) (m2 : l2 ≤ maxLen) (r0 : RdI .i64 w a0 b0 o0 l0 g0) (r1 : RdI .i64 w a1 b1 o1 l1 g1) (r2 : RdI .u64 w a2 b2 o2 l2 g2) :
    Calls Try.prog 6 #[.slice a0 l0 c0, .slice a1 l1 c1, .slice a2 l2 c2, .int .i64 x] w fun e w' => e = .returned (.bool true) ∧ Below w.heap.size w w' := by
  have HB : Hid _ := bytes26 a0 a1 a2 l0 c0 l1 c1 l2 c2 x w m0 m1 m2
  unfold maxLen at m0 m1 m2
  by_cases hl1 : l1 = l0
  · obtain rfl : l0 = l1 := hl1.symm
    clear hl1
    by_cases hl2 : l2 = l0
    · obtain rfl : l0 = l2 := hl2.symm
      clear hl2 m1 m2
      by_cases hx : 0 ≤ x ∧ x ≤ l0
      · obtain ⟨hx0, hx1⟩ := hx
        obtain ⟨kk, rfl⟩ : ∃ kk : Nat, x = (kk : Int) := ⟨x.toNat, by omega⟩
        have hkk : kk ≤ l0 := by omega
        go_enter Try.func6, Try.ntmps6
        go_wp2_with fail
        refine Calls.mono HB.out ?_
        rintro e w' ⟨⟨r, rfl⟩, hww⟩
        subst hww
        clear HB
        cases r
        · go_wp2_with fail
          go_ret
          exact ⟨rfl, Below.refl _ _⟩
        go_wp2_with fail
        · go_ret
          exact ⟨rfl, Below.refl _ _⟩
        have hn : l0 ≤ 4096 := by omega
        refine Calls.mono (dist21 a0 b0 o0 l0 c0 g0 _ (by omega) r0) ?_
        rintro e w0 ⟨⟨r, rfl, hd⟩, F0⟩
        cases r
        · go_wp2_with fail
          go_ret
          exact ⟨rfl, F0.below _ (Nat.le_refl _) (by simp)⟩
        have HD : Hid (DistG g0 l0) := hd rfl
        clear hd
        replace r0 := r0.fr F0 (by simp)
        replace r1 := r1.fr F0 (by simp)
        replace r2 := r2.fr F0 (by simp)
        go_wp2_with fail
        refine Calls.mono (dist27 a2 b2 o2 l0 c2 g2 _ (by omega) r2) ?_
        rintro e w1 ⟨⟨r, rfl, hd⟩, F1'⟩
        have F1 := F0.trans F1'
        cases r
        · go_wp2_with fail
          go_ret
          exact ⟨rfl, F1.below _ (Nat.le_refl _) (by simp)⟩
        have HE : Hid (DistG g2 l0) := hd rfl
        clear hd
        replace r0 := r0.fr F1' (by simp)
        replace r1 := r1.fr F1' (by simp)
        replace r2 := r2.fr F1' (by simp)
        clear F0 F1'
        go_wp2_with fail
        refine Calls.mono (clone11 a0 b0 o0 l0 c0 g0 _ (by omega) r0) ?_
        rintro e w2 ⟨a0', hA0, rfl, S0, F2⟩
        have G2 := F1.trans F2
        replace r1 := r1.fr F2 (by simp)
        replace r2 := r2.fr F2 (by simp)
        go_wp2_with fail
        refine Calls.mono (clone11 a1 b1 o1 l0 c1 g1 _ (by omega) r1) ?_
        rintro e w3 ⟨a1', hA1, rfl, S1, F3⟩
        have G3 := G2.trans F3
        replace r2 := r2.fr F3 (by simp)
        replace S0 := S0.fr F3 (by simp)
        go_wp2_with fail
        refine Calls.mono (clone22 a2 b2 o2 l0 c2 g2 _ (by omega) r2) ?_
        rintro e w4 ⟨a2', hA2, rfl, S2, F4⟩
        have G4 := G3.trans F4
        replace S0 := S0.fr F4 (by simp)
        replace S1 := S1.fr F4 (by simp)
        clear r0 r1 r2 F1 F2 F3 F4 G2 G3
        have d0 : 0 < l0 → w1.heap.size < w4.heap.size := fun h => S0.lt h
        have d1 : 0 < l0 → w2.heap.size < w4.heap.size := fun h => S1.lt h
        have d2 : 0 < l0 → w3.heap.size < w4.heap.size := fun h => S2.lt h
        go_wp2_with fail
        refine Calls.mono (build23 a0' _ 0 l0 _ g0 a1' _ 0 _ g1 a2' _ 0 _ g2 w4 hn S0 S1 S2) ?_
        rintro e w5 ⟨vN, vO, vT, rfl, hbd, F5⟩
        have G5 := G4.trans F5
        replace S0 := S0.fr F5 (by simp)
        replace S1 := S1.fr F5 (by simp)
        replace S2 := S2.fr F5 (by simp)
        have s4 := G4.size
        clear F5 G4
        generalize hB : w4.heap.size + 1 = B at hbd
        have HB4 : Hid (w4.heap.size + 1 = B) := hB
        clear hB
        rcases Nat.eq_zero_or_pos l0 with hn0 | hn0
        · subst hn0
          obtain rfl : kk = 0 := by omega
          go_wp2_with fail
          refine wp_loop_rounds 1 ?_
          rw [rounds_succ]
          go_wp2_with fail
          refine Calls.mono (build23 a0' _ 0 0 _ g0 a1' _ 0 _ g1 a2' _ 0 _ g2 w5 hn S0 S1 S2) ?_
          rintro e w6 ⟨vN', vO', vT', rfl, hbd', F6⟩
          replace S2 := S2.fr F6 (by simp)
          have G6 := G5.trans F6
          clear hbd' hbd
          go_wp2_with fail
          refine wp_loop_rounds 1 ?_
          rw [rounds_succ]
          go_wp2_with fail
          refine wp_loop_rounds 1 ?_
          rw [rounds_succ]
          go_wp2_with fail
          refine Calls.mono (argmax28 a2' _ 0 0 0 g2 (-1) _ (by omega) S2) ?_
          rintro e w7 ⟨rr, rfl, hao, F7⟩
          obtain rfl : rr = -1 := by
            rcases ao_bound hao with h | ⟨m, hm, _⟩
            · exact h
            · omega
          go_wp2_with fail
          refine wp_loop_rounds 1 ?_
          rw [rounds_succ]
          go_wp2_with fail
          go_ret
          exact ⟨rfl, (G6.trans F7).below _ (Nat.le_refl _) (by simp)⟩
        · obtain ⟨s, rfl, rfl, rfl, rfl, rfl, p1, p2, p3, hT⟩ := tree_of_build hbd hn0 hn
          have hbt : w'.heap.size < s.bt := by have := HB4.out; omega
          clear hbd
          have HDD : Hid (∀ i j, i < s.n → j < s.n → s.fi i = s.fi j → i = j) := HD.out
          clear HD
          have q0 : w1.heap.size ∉ s.bs := by have := HB4.out; have := d0 hn0; simp [Sh.bs]; omega
          have q1 : w2.heap.size ∉ s.bs := by have := HB4.out; have := d1 hn0; simp [Sh.bs]; omega
          have q2 : w3.heap.size ∉ s.bs := by have := HB4.out; have := d2 hn0; simp [Sh.bs]; omega
          have hbs : ∀ x, x ∈ s.bs → x < w'.heap.size → x ∈ ([] : List Nat) := by intro x hx hl; simp [Sh.bs] at hx; omega
          have HQ : Hid (w1.heap.size ∉ s.bs ∧ w2.heap.size ∉ s.bs ∧ w3.heap.size ∉ s.bs ∧ (∀ x, x ∈ s.bs → x < w'.heap.size → x ∈ ([] : List Nat))) := ⟨q0, q1, q2, hbs⟩
          clear q0 q1 q2 hbs
          go_wp2_with fail
          go_loopw [11, 12] (fun rt i wr => ∃ (k : Nat) (M : Mem) (t : BT Unit) (r : Int), k ≤ s.n ∧ i = .int .i64 k ∧ rt = .int .i32 r ∧ Built s (fun j => j < k) M t r ∧ TreeAt s wr M ∧ Fr s.bs w5 wr) (fun _ i _ => s.n - (intOf i).toNat)
          case atStart => exact ⟨0, M0 s.tx, .nil, -1, Nat.zero_le _, rfl, rfl, (built_none s).congr (by simp), hT, Fr.refl _ _⟩
          case round =>
            clear hT
            obtain ⟨k, M, t, r, hk, rfl, rfl, hbu, hT, hF⟩ := hrel
            by_cases hlt : k < s.n
            · have CI : Hid _ := zinsert24 s k hlt t M r wr hT hbu.in_ hbu.srt hbu.lt hbu.heap (hbu.ready hlt (by simp) HDD.out) (hbu.alone k hlt (by simp))
              go_wp2_with fail
              refine Calls.mono CI.out ?_
              rintro e w6 ⟨M', r', rfl, hio, hT', F6⟩
              clear CI
              obtain ⟨t', hbu'⟩ := hbu.ins hlt hio
              go_wp2_with fail
              go_roundw
              case rel => exact ⟨k + 1, M', t', r', by omega, by go_num, rfl, hbu'.congr (fun j => by omega), hT', hF.trans F6⟩
              case measure => simp [intOf]; omega
            · obtain rfl : k = s.n := by omega
              rename World => wq
              replace S0 := S0.fr hF (fun _ => HQ.out.1)
              replace S1 := S1.fr hF (fun _ => HQ.out.2.1)
              replace S2 := S2.fr hF (fun _ => HQ.out.2.2.1)
              have Gq : Fr [] w' wq := G5.transNew hF HQ.out.2.2.2
              clear G5 hF
              have sq := Gq.size
              obtain ⟨t1, t2, t3, t4⟩ := hT.lts
              have y0 := S0.lt hn0
              have y1 := S1.lt hn0
              have y2 := S2.lt hn0
              go_wp2_with fail
              refine Calls.mono (build23 a0' _ 0 s.n _ s.fi a1' _ 0 _ s.tx a2' _ 0 _ s.pr wq hn S0 S1 S2) ?_
              rintro e w6 ⟨vN', vO', vT', rfl, hbd', F6⟩
              replace S2 := S2.fr F6 (by simp)
              have G6 := Gq.trans F6
              replace hT := hT.fr0 F6
              generalize hB' : wq.heap.size + 1 = B' at hbd'
              have HB6 : Hid (wq.heap.size + 1 = B') := hB'
              clear hB'
              obtain ⟨s', rfl, en, ef, et, ep, p1', p2', p3', hT'⟩ := tree_of_build hbd' hn0 hn
              clear hbd'
              have HS : Hid (s'.fi = s.fi ∧ s'.tx = s.tx ∧ s'.pr = s.pr) := ⟨ef, et, ep⟩
              have HDD' : Hid (∀ i j, i < s.n → j < s.n → s'.fi i = s'.fi j → i = j) := by rw [ef]; exact HDD.out
              have HN' : Hid (s'.n = s.n) := en
              have hT0 : TreeAt s' w6 (M0 s'.tx) := by rw [et]; exact hT'
              clear hT' ef et ep en
              have u1 : s.bt ∉ s'.bs := by have := HB6.out; simp [Sh.bs]; omega
              have u2 : s.bn ∉ s'.bs := by have := HB6.out; simp [Sh.bs]; omega
              have u3 : s.bo ∉ s'.bs := by have := HB6.out; simp [Sh.bs]; omega
              have u4 : s.bp ∉ s'.bs := by have := HB6.out; simp [Sh.bs]; omega
              have u5 : w3.heap.size ∉ s'.bs := by have := HB6.out; simp [Sh.bs]; omega
              have u6 : ∀ x, x ∈ s'.bs → x < w'.heap.size → x ∈ ([] : List Nat) := by intro x hx hl; have := HB6.out; simp [Sh.bs] at hx; omega
              have HU : Hid (s.bt ∉ s'.bs ∧ s.bn ∉ s'.bs ∧ s.bo ∉ s'.bs ∧ s.bp ∉ s'.bs ∧ w3.heap.size ∉ s'.bs ∧ (∀ x, x ∈ s'.bs → x < w'.heap.size → x ∈ ([] : List Nat))) := ⟨u1, u2, u3, u4, u5, u6⟩
              clear u1 u2 u3 u4 u5 u6 t1 t2 t3 t4 y0 y1 y2 d0 d1 d2
              go_wp2_with fail
              go_loopw [14, 15] (fun rt i wr => ∃ (k : Nat) (M : Mem) (t : BT Unit) (r : Int), k ≤ s.n ∧ kk ≤ k ∧ i = .int .i64 k ∧ rt = .int .i32 r ∧ Built s' (fun j => kk ≤ j ∧ j < k) M t r ∧ TreeAt s' wr M ∧ Fr s'.bs w6 wr) (fun _ i _ => s.n - (intOf i).toNat)
              case atStart => exact ⟨kk, M0 s'.tx, .nil, -1, hkk, Nat.le_refl _, rfl, rfl, (built_none s').congr (fun j => ⟨fun h => h.elim, fun h => by omega⟩), hT0, Fr.refl _ _⟩
              case round =>
                clear hT0
                obtain ⟨k, M1, t1, q, hk, hk', rfl, rfl, hbu1, hT1, hF1⟩ := hrel
                by_cases hlt : k < s.n
                · have hlt' : k < s'.n := by rw [HN'.out]; exact hlt
                  have CI : Hid _ := zinsert24 s' k hlt' t1 M1 q wr hT1 hbu1.in_ hbu1.srt hbu1.lt hbu1.heap (hbu1.ready hlt' (by simp) (by rw [HN'.out]; exact HDD'.out)) (hbu1.alone k hlt' (by simp))
                  go_wp2_with fail
                  refine Calls.mono CI.out ?_
                  rintro e w7 ⟨M2, q', rfl, hio, hT2, F7⟩
                  clear CI
                  obtain ⟨t2, hbu2⟩ := hbu1.ins hlt' hio
                  go_wp2_with fail
                  go_roundw
                  case rel => exact ⟨k + 1, M2, t2, q', by omega, by omega, by go_num, rfl, hbu2.congr (fun j => by omega), hT2, hF1.trans F7⟩
                  case measure => simp [intOf]; omega
                · obtain rfl : k = s.n := by omega
                  go_wp2_with fail
                  go_loopw [14, 16] (fun rt i wr => ∃ (k : Nat) (M : Mem) (t : BT Unit) (r : Int), k ≤ kk ∧ i = .int .i64 k ∧ rt = .int .i32 r ∧ Built s' (fun j => (kk ≤ j ∧ j < s.n) ∨ j < k) M t r ∧ TreeAt s' wr M ∧ Fr s'.bs w6 wr) (fun _ i _ => kk - (intOf i).toNat)
                  case atStart => exact ⟨0, M1, t1, q, Nat.zero_le _, rfl, rfl, hbu1.congr (fun j => by omega), hT1, hF1⟩
                  case round =>
                    clear hT1 hF1 hbu1
                    obtain ⟨k, M1, t1, q, hk, rfl, rfl, hbu1, hT1, hF1⟩ := hrel
                    by_cases hlt : k < kk
                    · have hlt' : k < s'.n := by rw [HN'.out]; omega
                      have CI : Hid _ := zinsert24 s' k hlt' t1 M1 q wr hT1 hbu1.in_ hbu1.srt hbu1.lt hbu1.heap (hbu1.ready hlt' (by omega) (by rw [HN'.out]; exact HDD'.out)) (hbu1.alone k hlt' (by omega))
                      go_wp2_with fail
                      refine Calls.mono CI.out ?_
                      rintro e w7 ⟨M2, q', rfl, hio, hT2, F7⟩
                      clear CI
                      obtain ⟨t2, hbu2⟩ := hbu1.ins hlt' hio
                      go_wp2_with fail
                      go_roundw
                      case rel => exact ⟨k + 1, M2, t2, q', by omega, by go_num, rfl, hbu2.congr (fun j => by omega), hT2, hF1.trans F7⟩
                      case measure => simp [intOf]; omega
                    · obtain rfl : k = kk := by omega
                      rename World => wv
                      have hbu2 : Built s' (fun j => j < s.n) M1 t1 q := hbu1.congr (fun j => by omega)
                      have hinj : ∀ i j, i < s.n → j < s.n → s.pr i = s.pr j → i = j := HE.out
                      have huq := built_unique hbu hbu2 HS.out.1 HS.out.2.1 HS.out.2.2 hinj
                      have hroot := hbu.root
                      replace hT := hT.fr hF1 HU.out.1 HU.out.2.1 HU.out.2.2.1 HU.out.2.2.2.1
                      replace S2 := S2.fr hF1 (fun _ => HU.out.2.2.2.2.1)
                      have Gv : Fr [] w' wv := G6.transNew hF1 HU.out.2.2.2.2.2
                      have hln := hbu.lt
                      clear hbu hbu1 hbu2 hF1 G6 Gq
                      obtain ⟨rfl, huq⟩ := huq
                      have HUQ : Hid (∀ j, j < s.n → M.L j = M1.L j ∧ M.R j = M1.R j ∧ M.T j = M1.T j) := huq
                      have HI : Hid (∀ i j, i < s.n → j < s.n → s.pr i = s.pr j → i = j) := hinj
                      clear huq hinj
                      go_wp2_with fail
                      refine Calls.mono (argmax28 a2' _ 0 s.n s.n s.pr (-1) _ (by omega) S2) ?_
                      rintro e w8 ⟨best, rfl, hao, F8⟩
                      obtain rfl : r = best := ao_unique (fun i j hi hj => HI.out i j hi.1 hj.1) (ao_congr hroot (fun j => by unfold PB; omega)) hao
                      have Gw := Gv.trans F8
                      replace hT := hT.fr0 F8
                      replace hT1 := hT1.fr0 F8
                      clear hao hroot F8 Gv S2
                      go_wp2_with fail
                      go_loopw [18] (fun i wr => ∃ k : Nat, k ≤ s.n ∧ i = .int .i64 k ∧ Fr [] w8 wr) (fun i _ => s.n - (intOf i).toNat)
                      case atStart => exact ⟨0, Nat.zero_le _, rfl, Fr.refl _ _⟩
                      case round =>
                        obtain ⟨k, hk, rfl, hF9⟩ := hrel
                        by_cases hlt : k < s.n
                        · have hlt' : k < s'.n := by rw [HN'.out]; exact hlt
                          have hTa := hT.fr0 hF9
                          have hTb := hT1.fr0 hF9
                          have Z1 : Hid _ := znode29 s M k wr hTa hlt
                          obtain ⟨eL, eR, eT⟩ := HUQ.out k hlt
                          have HE3 : Hid (M.L k = M1.L k ∧ M.R k = M1.R k ∧ M.T k = M1.T k) := ⟨eL, eR, eT⟩
                          clear eL eR eT
                          go_wp2_with fail
                          refine Calls.mono Z1.out ?_
                          rintro e w9 ⟨rfl, F9⟩
                          clear Z1
                          rw [HE3.out.1, HE3.out.2.1]
                          go_wp2_with fail
                          refine Calls.mono (znode29 s' M1 k _ (hTb.fr0 (F9.alloc _)) hlt') ?_
                          rintro e w10 ⟨rfl, F10⟩
                          go_wp2_with fail
                          have K1 : Fr [] wr w10 := (F9.alloc _).trans F10
                          refine Calls.mono (ztop30 s M k _ (hTa.fr0 (K1.alloc _)) hlt) ?_
                          rintro e w11 ⟨rfl, F11⟩
                          have K2 : Fr [] wr w11 := (K1.alloc _).trans F11
                          rw [HE3.out.2.2]
                          go_wp2_with fail
                          refine Calls.mono (ztop30 s' M1 k _ (hTb.fr0 K2) hlt') ?_
                          rintro e w12 ⟨rfl, F12⟩
                          go_wp2_with fail
                          go_roundw
                          case rel => exact ⟨k + 1, by omega, by go_num, hF9.trans (K2.trans F12)⟩
                          case measure => simp [intOf]; omega
                        · go_wp2_with fail
                          go_ret
                          exact ⟨rfl, (Gw.trans hF9).below _ (Nat.le_refl _) (by simp)⟩
      · have hx' : x < 0 ∨ (l0 : Int) < x := by omega
        clear hx
        rcases hx' with hx' | hx'
        · have hxx : ¬ 0 ≤ x := by omega
          go_enter Try.func6, Try.ntmps6
          go_wp2_with fail
          refine Calls.mono HB.out ?_
          rintro e w' ⟨⟨r, rfl⟩, hww⟩
          subst hww
          cases r
          all_goals
            go_wp2_with fail
          all_goals (go_ret; exact ⟨rfl, Below.refl _ _⟩)
        · go_enter Try.func6, Try.ntmps6
          go_wp2_with fail
          refine Calls.mono HB.out ?_
          rintro e w' ⟨⟨r, rfl⟩, hww⟩
          subst hww
          cases r
          all_goals
            go_wp2_with fail
          all_goals (go_ret; exact ⟨rfl, Below.refl _ _⟩)
    · go_enter Try.func6, Try.ntmps6
      go_wp2_with fail
      refine Calls.mono HB.out ?_
      rintro e w' ⟨⟨r, rfl⟩, hww⟩
      subst hww
      cases r
      all_goals
        go_wp2_with fail
      all_goals (go_ret; exact ⟨rfl, Below.refl _ _⟩)
  · go_enter Try.func6, Try.ntmps6
    go_wp2_with fail
    refine Calls.mono HB.out ?_
    rintro e w' ⟨⟨r, rfl⟩, hww⟩
    subst hww
    cases r
    all_goals
      go_wp2_with fail
    all_goals (go_ret; exact ⟨rfl, Below.refl _ _⟩)

end Go.Proofs.Qxb6613402a
