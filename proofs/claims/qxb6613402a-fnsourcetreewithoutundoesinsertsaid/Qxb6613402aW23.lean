import Derived.Test.Qxb6613402aW18
import Derived.Test.Qxb6613402aW20
namespace Go.Proofs.Qxb6613402a
open Go.RowKit
open Go.Deep (BT)

theorem info21' : (Try.prog.info? 21).map (fun i => (i.zero, i.size, i.bytes)) = some (some (.int .i32 0), 1, 4) := by kernel_rfl

theorem made3 (w : World) (z1 z2 z3 : Value) (n : Nat) (t1 t2 t3 : TypeId) :
    (((w.alloc (.cells (madeCells #[z1] n) t1)).alloc (.cells (madeCells #[z2] n) t2)).alloc (.cells (madeCells #[z3] n) t3)).rowIs w.heap.size t1 n (fun _ => z1) ∧
    (((w.alloc (.cells (madeCells #[z1] n) t1)).alloc (.cells (madeCells #[z2] n) t2)).alloc (.cells (madeCells #[z3] n) t3)).rowIs (w.heap.size + 1) t2 n (fun _ => z2) ∧
    (((w.alloc (.cells (madeCells #[z1] n) t1)).alloc (.cells (madeCells #[z2] n) t2)).alloc (.cells (madeCells #[z3] n) t3)).rowIs (w.heap.size + 1 + 1) t3 n (fun _ => z3) := by
  refine ⟨?_, ?_, ?_⟩
  · exact (((Fr.refl [] _).alloc _).alloc _).row (World.rowIs_made w z1 n t1) (by simp)
  · have h := World.rowIs_made (w.alloc (.cells (madeCells #[z1] n) t1)) z2 n t2
    rw [show (w.alloc (.cells (madeCells #[z1] n) t1)).heap.size = w.heap.size + 1 by simp] at h
    exact ((Fr.refl [] _).alloc _).row h (by simp)
  · have h := World.rowIs_made ((w.alloc (.cells (madeCells #[z1] n) t1)).alloc (.cells (madeCells #[z2] n) t2)) z3 n t3
    rw [show ((w.alloc (.cells (madeCells #[z1] n) t1)).alloc (.cells (madeCells #[z2] n) t2)).heap.size = w.heap.size + 1 + 1 by simp] at h
    exact h

theorem rows_step {w9 w11 : World} {X : Obj} {k n B1 B2 B3 : Nat} {t1 t2 t3 : TypeId} {v u : Value} {f1 f2 f3 : Nat → Value} (r1 : w9.rowIs B1 t1 n f1) (r2 : w9.rowIs B2 t2 n f2) (r3 : w9.rowIs B3 t3 n f3)
    (F : Fr [] (((w9.setCell ⟨B1, k, none⟩ v).setCell ⟨B2, k, none⟩ u).alloc X) w11) (d12 : B1 ≠ B2) (d13 : B1 ≠ B3) (d23 : B2 ≠ B3) :
    w11.rowIs B1 t1 n (fun i => if i = k then v else f1 i) ∧ w11.rowIs B2 t2 n (fun i => if i = k then u else f2 i) ∧ w11.rowIs B3 t3 n f3 := by
  have A : Fr [] ((w9.setCell ⟨B1, k, none⟩ v).setCell ⟨B2, k, none⟩ u) w11 := ((Fr.refl _ _).alloc X).trans F
  refine ⟨A.row ((r1.set k v).setOther d12 u) (by simp), A.row ((r2.setOther (a := ⟨B1, k, none⟩) d12.symm v).set k u) (by simp), A.row ((r3.setOther (a := ⟨B1, k, none⟩) d13.symm v).setOther (a := ⟨B2, k, none⟩) d23.symm u) (by simp)⟩

theorem ztop30q (s : Sh) (M : Mem) (k : Nat) (w : World) (h : TreeAt s w M) (hk : k < s.n) :
    Calls Try.prog 30 #[.pointer (some ⟨s.bt, 0, none⟩), .int .i32 k] w fun e w' => e = .returned (.int .i64 (M.T k)) ∧ ∃ m, w' = w.drewN m := by
  have c0 : w.cell? ⟨s.bt, 0, none⟩ = some (.slice (some ⟨s.bk, 0, none⟩) 1 1) := h.head.cell (by omega)
  have c3 : w.cell? ⟨s.bt, 3, none⟩ = some (.slice (some ⟨s.bp, 0, none⟩) s.n s.cp) := h.head.cell (by omega)
  have t1 : w.cell? ⟨s.bp, k, none⟩ = some (.int .i64 (M.T k)) := h.cellT hk
  have hn := h.hn
  have hk' : (k : Int) < (s.n : Int) := by omega
  go_enter Try.func30, Try.ntmps30
  go_wp2_with fail
  go_quiet (fail)
  go_wp2_with fail
  go_ret
  exact ⟨rfl, _, rfl⟩

/-- Taken out again: all as it was. -/
theorem undone {s : Sh} {P : Nat → Prop} {M M1 M2 : Mem} {t t1 : BT Unit} {r r1 r2 : Int} {m : Nat} (h : Built s P M t r) (h1 : Built s (fun j => P j ∨ j = m) M1 t1 r1) (hm : ¬ P m) (ho : WoOut s.tx s.pr M1 t1 m M2 r2)
    (hd : ∀ i j, P i → P j → s.pr i = s.pr j → i = j) : r = r2 ∧ ∀ j, P j → M.L j = M2.L j ∧ M.R j = M2.R j ∧ M.T j = M2.T j := by
  obtain ⟨t2, i2, s2, p2, m2⟩ := h1.wo ho
  have hk : keys t = keys t2 := sorted_unique _ _ h.srt s2 (fun j => by
    rw [h.mem j, m2 j]
    constructor
    · intro hj; exact ⟨.inl hj, fun e => hm (e ▸ hj)⟩
    · rintro ⟨hj | hj, hne⟩
      · exact hj
      · exact absurd hj hne)
  have := unique t t2 r r2 h.in_ i2 h.heap p2 hk h.srt.nodup (fun i hi j hj e => hd i j ((h.mem i).1 hi) ((h.mem j).1 hj) e)
  exact ⟨this.1, fun j hj => this.2 j ((h.mem j).2 hj)⟩

set_option maxRecDepth 100000 in
set_option maxHeartbeats 4000000 in
theorem walk8 (a0 : Option Addr) (b0 o0 l0 c0 : Nat) (g0 : Nat → Int) (a1 : Option Addr) (b1 o1 l1 c1 : Nat) (g1 : Nat → Int) (a2 : Option Addr) (b2 o2 l2 c2 : Nat) (g2 : Nat → Int) (x : Int) (w : World)
    (m0 : l0 ≤ maxLen) (m1 : l1 ≤ maxLen) (m2 : l2 ≤ maxLen) (r0 : RdI .i64 w a0 b0 o0 l0 g0) (r1 : RdI .i64 w a1 b1 o1 l1 g1) (r2 : RdI .u64 w a2 b2 o2 l2 g2) :
    Calls Try.prog 8 #[.slice a0 l0 c0, .slice a1 l1 c1, .slice a2 l2 c2, .int .i64 x] w fun e w' => e = .returned (.bool true) ∧ Below w.heap.size w w' := by
  have HB : Hid _ := bytes33 a0 a1 a2 l0 c0 l1 c1 l2 c2 x w m0 m1 m2
  unfold maxLen at m0 m1 m2
  by_cases hl1 : l1 = l0
  · obtain rfl : l0 = l1 := hl1.symm
    clear hl1
    by_cases hl2 : l2 = l0
    · obtain rfl : l0 = l2 := hl2.symm
      clear hl2 m1 m2
      by_cases hx : 0 ≤ x ∧ x < l0
      · obtain ⟨hx0, hx1⟩ := hx
        obtain ⟨kk, rfl⟩ : ∃ kk : Nat, x = (kk : Int) := ⟨x.toNat, by omega⟩
        have hkk : kk < l0 := by omega
        have hn0 : 0 < l0 := by omega
        go_enter Try.func8, Try.ntmps8
        go_wp2_with fail
        refine Calls.mono HB.out ?_
        rintro e w' ⟨⟨r, rfl⟩, hww⟩
        subst hww
        clear HB
        cases r
        · go_wp2_with fail
          go_ret
          exact ⟨rfl, Below.refl _ _⟩
        go_wp2_with fail
        · go_ret
          exact ⟨rfl, Below.refl _ _⟩
        have hn : l0 ≤ 4096 := by omega
        refine Calls.mono (dist21 a0 b0 o0 l0 c0 g0 _ (by omega) r0) ?_
        rintro e w0 ⟨⟨r, rfl, hd⟩, F0⟩
        cases r
        · go_wp2_with fail
          go_ret
          exact ⟨rfl, F0.below _ (Nat.le_refl _) (by simp)⟩
        have HD : Hid (DistG g0 l0) := hd rfl
        clear hd
        replace r0 := r0.fr F0 (by simp)
        replace r1 := r1.fr F0 (by simp)
        replace r2 := r2.fr F0 (by simp)
        go_wp2_with fail
        refine Calls.mono (dist27 a2 b2 o2 l0 c2 g2 _ (by omega) r2) ?_
        rintro e w1 ⟨⟨r, rfl, hd⟩, F1'⟩
        have F1 := F0.trans F1'
        cases r
        · go_wp2_with fail
          go_ret
          exact ⟨rfl, F1.below _ (Nat.le_refl _) (by simp)⟩
        have HE : Hid (DistG g2 l0) := hd rfl
        clear hd
        replace r0 := r0.fr F1' (by simp)
        replace r1 := r1.fr F1' (by simp)
        replace r2 := r2.fr F1' (by simp)
        clear F0 F1'
        go_wp2_with fail
        refine Calls.mono (clone11 a0 b0 o0 l0 c0 g0 _ (by omega) r0) ?_
        rintro e w2 ⟨a0', hA0, rfl, S0, F2⟩
        have G2 := F1.trans F2
        replace r1 := r1.fr F2 (by simp)
        replace r2 := r2.fr F2 (by simp)
        go_wp2_with fail
        refine Calls.mono (clone11 a1 b1 o1 l0 c1 g1 _ (by omega) r1) ?_
        rintro e w3 ⟨a1', hA1, rfl, S1, F3⟩
        have G3 := G2.trans F3
        replace r2 := r2.fr F3 (by simp)
        replace S0 := S0.fr F3 (by simp)
        go_wp2_with fail
        refine Calls.mono (clone22 a2 b2 o2 l0 c2 g2 _ (by omega) r2) ?_
        rintro e w4 ⟨a2', hA2, rfl, S2, F4⟩
        have G4 := G3.trans F4
        replace S0 := S0.fr F4 (by simp)
        replace S1 := S1.fr F4 (by simp)
        clear r0 r1 r2 F1 F2 F3 F4 G2 G3
        have d0 : w1.heap.size < w4.heap.size := S0.lt hn0
        have d1 : w2.heap.size < w4.heap.size := S1.lt hn0
        have d2 : w3.heap.size < w4.heap.size := S2.lt hn0
        go_wp2_with fail
        refine Calls.mono (build23 a0' _ 0 l0 _ g0 a1' _ 0 _ g1 a2' _ 0 _ g2 w4 hn S0 S1 S2) ?_
        rintro e w5 ⟨vN, vO, vT, rfl, hbd, F5⟩
        have G5 := G4.trans F5
        replace S0 := S0.fr F5 (by simp)
        replace S1 := S1.fr F5 (by simp)
        replace S2 := S2.fr F5 (by simp)
        have s4 := G4.size
        clear F5 G4
        generalize hB : w4.heap.size + 1 = B at hbd
        have HB4 : Hid (w4.heap.size + 1 = B) := hB
        clear hB
        obtain ⟨s, rfl, rfl, rfl, rfl, rfl, p1, p2, p3, hT⟩ := tree_of_build hbd hn0 hn
        have hbt : w'.heap.size < s.bt := by have := HB4.out; omega
        have hmk1 := run_make_row' (P := Try.prog) 54 21 (.int .i32 0) 4 Try.underlying54 info21' rfl .i64 .i64 s.n (by omega) (by omega)
        have hmk2 := run_make_row' (P := Try.prog) 22 3 (.int .i64 0) 8 Try.underlying22 info3 rfl .i64 .i64 s.n (by omega) (by omega)
        clear hbd
        have HDD : Hid (∀ i j, i < s.n → j < s.n → s.fi i = s.fi j → i = j) := HD.out
        have HI : Hid (∀ i j, i < s.n → j < s.n → s.pr i = s.pr j → i = j) := HE.out
        clear HD HE
        have q0 : w1.heap.size ∉ s.bs := by have := HB4.out; simp [Sh.bs]; omega
        have q1 : w2.heap.size ∉ s.bs := by have := HB4.out; simp [Sh.bs]; omega
        have q2 : w3.heap.size ∉ s.bs := by have := HB4.out; simp [Sh.bs]; omega
        have hbs : ∀ x, x ∈ s.bs → x < w'.heap.size → x ∈ ([] : List Nat) := by intro x hx hl; simp [Sh.bs] at hx; omega
        have HQ : Hid (w1.heap.size ∉ s.bs ∧ w2.heap.size ∉ s.bs ∧ w3.heap.size ∉ s.bs ∧ (∀ x, x ∈ s.bs → x < w'.heap.size → x ∈ ([] : List Nat))) := ⟨q0, q1, q2, hbs⟩
        clear d0 d1 d2 q0 q1 q2 hbs S1
        obtain rfl := S0.adr hn0
        go_wp2_with fail
        go_loopw [11, 12] (fun rt i wr => ∃ (k : Nat) (M : Mem) (t : BT Unit) (r : Int), k ≤ s.n ∧ i = .int .i64 k ∧ rt = .int .i32 r ∧ Built s (fun j => j < k ∧ j ≠ kk) M t r ∧ TreeAt s wr M ∧ Fr s.bs w5 wr) (fun _ i _ => s.n - (intOf i).toNat)
        case atStart => exact ⟨0, M0 s.tx, .nil, -1, Nat.zero_le _, rfl, rfl, (built_none s).congr (by simp), hT, Fr.refl _ _⟩
        case round =>
          clear hT
          obtain ⟨k, M, t, r, hk, rfl, rfl, hbu, hT, hF⟩ := hrel
          by_cases hlt : k < s.n
          · by_cases hkj : k = kk
            · subst hkj
              go_wp2_with fail
              go_roundw
              case rel => exact ⟨k + 1, M, t, r, by omega, by go_num, rfl, hbu.congr (fun j => by omega), hT, hF⟩
              case measure => simp [intOf]; omega
            · have hki : ((k : Nat) : Int) ≠ ((kk : Nat) : Int) := by omega
              have CI : Hid _ := zinsert24 s k hlt t M r wr hT hbu.in_ hbu.srt hbu.lt hbu.heap (hbu.ready hlt (by simp) HDD.out) (hbu.alone k hlt (by simp))
              go_wp2_with fail
              refine Calls.mono CI.out ?_
              rintro e w6 ⟨M', r', rfl, hio, hT', F6⟩
              clear CI
              obtain ⟨t', hbu'⟩ := hbu.ins hlt hio
              go_wp2_with fail
              go_roundw
              case rel => exact ⟨k + 1, M', t', r', by omega, by go_num, rfl, hbu'.congr (fun j => by omega), hT', hF.trans F6⟩
              case measure => simp [intOf]; omega
          · obtain rfl : k = s.n := by omega
            rename World => wp0
            replace S0 := S0.fr hF (fun _ => HQ.out.1)
            replace S2 := S2.fr hF (fun _ => HQ.out.2.2.1)
            have Gp : Fr [] w' wp0 := G5.transNew hF HQ.out.2.2.2
            have sp := Gp.size
            clear G5 hF
            obtain ⟨z1, z2, z3, z4⟩ := hT.lts
            go_wp2_with fail
            generalize e1 : wp0.heap.size = B1
            have HB1 : Hid (wp0.heap.size = B1) := e1
            clear e1
            go_loopw [16] (fun i wx => ∃ (k : Nat) (f1 f2 f3 : Nat → Value), k ≤ s.n ∧ i = .int .i64 k ∧ wx.rowIs B1 21 s.n f1 ∧ wx.rowIs (B1 + 1) 21 s.n f2 ∧ wx.rowIs (B1 + 1 + 1) 3 s.n f3 ∧ (∀ j, j < k → j ≠ kk → f1 j = .int .i32 (M.L j) ∧ f2 j = .int .i32 (M.R j) ∧ f3 j = .int .i64 (M.T j)) ∧ Fr [] wp0 wx) (fun i _ => s.n - (intOf i).toNat)
            case atStart =>
              obtain ⟨y1, y2, y3⟩ := made3 wp0 (.int .i32 0) (.int .i32 0) (.int .i64 0) s.n 21 21 3
              rw [HB1.out] at y1 y2 y3
              exact ⟨0, _, _, _, Nat.zero_le _, rfl, y1, y2, y3, fun j hj => by omega, (((Fr.refl _ _).alloc _).alloc _).alloc _⟩
            case round =>
              obtain ⟨k, f1, f2, f3, hk, rfl, y1, y2, y3, hf, hF2⟩ := hrel
              have HF : Hid (∀ j, j < k → j ≠ kk → f1 j = .int .i32 (M.L j) ∧ f2 j = .int .i32 (M.R j) ∧ f3 j = .int .i64 (M.T j)) := hf
              clear hf hmk1 hmk2
              have hU : (s.bt ∉ [B1, B1 + 1] ∧ s.bn ∉ [B1, B1 + 1] ∧ s.bo ∉ [B1, B1 + 1] ∧ s.bp ∉ [B1, B1 + 1]) ∧ (B1 ∉ s.bs ∧ B1 + 1 ∉ s.bs ∧ B1 + 1 + 1 ∉ s.bs) ∧ wp0.heap.size ≤ B1 := by
                have := HB1.out
                refine ⟨⟨?_, ?_, ?_, ?_⟩, ⟨?_, ?_, ?_⟩, by omega⟩ <;> simp [Sh.bs] <;> omega
              have HU : Hid ((s.bt ∉ [B1, B1 + 1] ∧ s.bn ∉ [B1, B1 + 1] ∧ s.bo ∉ [B1, B1 + 1] ∧ s.bp ∉ [B1, B1 + 1]) ∧ (B1 ∉ s.bs ∧ B1 + 1 ∉ s.bs ∧ B1 + 1 + 1 ∉ s.bs) ∧ wp0.heap.size ≤ B1) := hU
              clear hU z1 z2 z3 z4
              by_cases hlt : k < s.n
              · by_cases hkj : k = kk
                · have hkb : ((k : Int) == (kk : Int)) = true := by simp; omega
                  have HK : Hid (k = kk) := hkj
                  clear hkj
                  go_wp2_with fail
                  go_roundw
                  case rel => exact ⟨k + 1, f1, f2, f3, by omega, by go_num, y1, y2, y3, fun j hj hne => HF.out j (by have := HK.out; omega) hne, hF2⟩
                  case measure => simp [intOf]; omega
                · have hkb : ((k : Int) == (kk : Int)) = false := by simp; omega
                  have HK : Hid (k ≠ kk) := hkj
                  clear hkj
                  have hTa := hT.fr0 hF2
                  have Z1 : Hid _ := znode29 s M k wr hTa hlt
                  go_wp2_with fail
                  refine Calls.mono Z1.out ?_
                  rintro e w9 ⟨rfl, F9⟩
                  replace y1 := F9.row y1 (by simp)
                  replace y2 := F9.row y2 (by simp)
                  replace y3 := F9.row y3 (by simp)
                  have k1 : w9.cell? ⟨B1, k, none⟩ = some (f1 k) := y1.cell hlt
                  have k2 : w9.cell? ⟨B1 + 1, k, none⟩ = some (f2 k) := y2.cell hlt
                  have g1 : w9.frozen? ⟨B1, k, none⟩ = false := y1.frozen k
                  have g2 : w9.frozen? ⟨B1 + 1, k, none⟩ = false := y2.frozen k
                  have x1 : B1 < w9.heap.size := y1.lt
                  have x2 : B1 + 1 < w9.heap.size := y2.lt
                  clear Z1
                  go_wp2_with fail
                  refine Calls.mono (ztop30 s M k _ (hTa.fr (S := [B1, B1 + 1]) ((((F9.mono (by simp)).setCell (.inl (by simp)) _).setCell (.inl (by simp)) _).alloc _) HU.out.1.1 HU.out.1.2.1 HU.out.1.2.2.1 HU.out.1.2.2.2) hlt) ?_
                  rintro e w11 ⟨rfl, F11⟩
                  have K2 : Fr [] wp0 w11 := ((((hF2.trans F9).setCell (.inr HU.out.2.2) _).setCell (.inr (Nat.le_succ_of_le HU.out.2.2)) _).alloc _).trans F11
                  obtain ⟨y1, y2, y3⟩ := rows_step y1 y2 y3 F11 (by omega) (by omega) (by omega)
                  have k3 : w11.cell? ⟨B1 + 1 + 1, k, none⟩ = some (f3 k) := y3.cell hlt
                  have g3 : w11.frozen? ⟨B1 + 1 + 1, k, none⟩ = false := y3.frozen k
                  clear k1 k2 g1 g2 x1 x2 F11
                  go_wp2_with fail
                  go_roundw
                  case rel =>
                    refine ⟨k + 1, _, _, _, by omega, by go_num, y1.setOther (a := ⟨B1 + 1 + 1, k, none⟩) (show B1 ≠ B1 + 1 + 1 by omega) _, y2.setOther (a := ⟨B1 + 1 + 1, k, none⟩) (show B1 + 1 ≠ B1 + 1 + 1 by omega) _, y3.set k _, fun j hj hne => ?_, K2.setCell (.inr (Nat.le_succ_of_le (Nat.le_succ_of_le HU.out.2.2))) _⟩
                    by_cases e : j = k
                    · subst e; simp
                    · simp only [if_neg e]; exact HF.out j (by omega) hne
                  case measure => simp [intOf]; omega
              · obtain rfl : k = s.n := by omega
                rename World => wq
                replace hT := hT.fr0 hF2
                replace S0 := S0.fr hF2 (by simp)
                replace S2 := S2.fr hF2 (by simp)
                have Gq := Gp.trans hF2
                have CI : Hid _ := zinsert24 s kk hkk t M r wq hT hbu.in_ hbu.srt hbu.lt hbu.heap (hbu.ready hkk (by simp) HDD.out) (hbu.alone kk hkk (by simp))
                clear hF2 Gp
                go_wp2_with fail
                refine Calls.mono CI.out ?_
                rintro e w6 ⟨M1, r1, rfl, hio, hT1, F6⟩
                clear CI
                obtain ⟨t1, hbu1⟩ := hbu.ins hkk hio
                replace S0 := S0.fr F6 (fun _ => HQ.out.1)
                have hc0 : w6.cell? ⟨w1.heap.size, kk, none⟩ = some (.int .i64 (s.fi kk)) := by have := S0.cell kk hkk; rwa [Nat.zero_add] at this
                have CW : Hid _ := zwithout32 s kk t1 M1 r1 w6 hT1 hbu1.in_ hbu1.srt hbu1.lt hbu1.heap ((hbu1.mem kk).2 (.inr rfl))
                go_wp2_with fail
                refine Calls.mono CW.out ?_
                rintro e w7 ⟨M2, r2, rfl, hwo, hT2, F7⟩
                clear CW hc0
                have huq := undone hbu hbu1 (by simp) hwo (fun i j hi hj => HI.out i j hi.1 hj.1)
                have hroot := hbu.root
                have F67 := F6.trans F7
                replace S2 := S2.fr F67 (fun _ => HQ.out.2.2.1)
                replace y1 := F67.row y1 HU.out.2.1.1
                replace y2 := F67.row y2 HU.out.2.1.2.1
                replace y3 := F67.row y3 HU.out.2.1.2.2
                have Gv : Fr [] w' w7 := Gq.transNew F67 HQ.out.2.2.2
                clear hbu hbu1 hio hwo hT hT1 F6 F7 F67 Gq S0
                obtain ⟨rfl, huq⟩ := huq
                have HUQ : Hid (∀ j, j < s.n ∧ j ≠ kk → M.L j = M2.L j ∧ M.R j = M2.R j ∧ M.T j = M2.T j) := huq
                clear huq
                go_wp2_with fail
                refine Calls.mono (argmax28 a2' _ 0 s.n s.n s.pr kk _ (by omega) S2) ?_
                rintro e w8 ⟨best, rfl, hao, F8⟩
                obtain rfl : r = best := ao_unique (fun i j hi hj => HI.out i j hi.1 hj.1) (ao_congr hroot (fun j => by unfold PB; omega)) hao
                have Gw := Gv.trans F8
                replace hT2 := hT2.fr0 F8
                replace y1 := F8.row y1 (by simp)
                replace y2 := F8.row y2 (by simp)
                replace y3 := F8.row y3 (by simp)
                clear hao hroot F8 Gv S2
                go_wp2_with fail
                go_loopw [23] (fun i wr => ∃ k : Nat, k ≤ s.n ∧ i = .int .i64 k ∧ Fr [] w8 wr) (fun i _ => s.n - (intOf i).toNat)
                case atStart => exact ⟨0, Nat.zero_le _, rfl, Fr.refl _ _⟩
                case round =>
                  obtain ⟨k, hk, rfl, hF9⟩ := hrel
                  by_cases hlt : k < s.n
                  · by_cases hkj : k = kk
                    · have hkb : ((k : Int) == (kk : Int)) = true := by simp; omega
                      clear hkj
                      go_wp2_with fail
                      go_roundw
                      case rel => exact ⟨k + 1, by omega, by go_num, hF9⟩
                      case measure => simp [intOf]; omega
                    · have hkb : ((k : Int) == (kk : Int)) = false := by simp; omega
                      obtain ⟨e1, e2, e3⟩ := HF.out k hlt hkj
                      obtain ⟨e4, e5, e6⟩ := HUQ.out k ⟨hlt, hkj⟩
                      have v1 : wr.cell? ⟨B1, k, none⟩ = some (.int .i32 (M2.L k)) := by rw [(hF9.row y1 (by simp)).cell hlt, e1, e4]
                      have v2 : wr.cell? ⟨B1 + 1, k, none⟩ = some (.int .i32 (M2.R k)) := by rw [(hF9.row y2 (by simp)).cell hlt, e2, e5]
                      have v3 : wr.cell? ⟨B1 + 1 + 1, k, none⟩ = some (.int .i64 (M2.T k)) := by rw [(hF9.row y3 (by simp)).cell hlt, e3, e6]
                      clear hkj e1 e2 e3 e4 e5 e6
                      have hTa := hT2.fr0 hF9
                      have Z1 : Hid _ := znode29 s M2 k wr hTa hlt
                      have hki : (k : Int) < (s.n : Int) := by omega
                      go_wp2_with fail
                      refine Calls.mono Z1.out ?_
                      rintro e w9 ⟨rfl, F9⟩
                      have k1 : w9.cell? ⟨B1, k, none⟩ = some (.int .i32 (M2.L k)) := F9.cell v1 (by simp)
                      have k2 : w9.cell? ⟨B1 + 1, k, none⟩ = some (.int .i32 (M2.R k)) := F9.cell v2 (by simp)
                      have k3 : w9.cell? ⟨B1 + 1 + 1, k, none⟩ = some (.int .i64 (M2.T k)) := F9.cell v3 (by simp)
                      have x1 : B1 < w9.heap.size := lt_of_cell k1
                      have x2 : B1 + 1 < w9.heap.size := lt_of_cell k2
                      have x3 : B1 + 1 + 1 < w9.heap.size := lt_of_cell k3
                      clear Z1
                      go_wp2_with fail
                      go_quiet ((go_at_call 30; exact Calls.quiet_of (ztop30q s M2 k _ (hTa.fr0 ((F9.alloc _).drewN _)) hlt)))
                      go_wp2_with fail
                      go_roundw
                      case rel => exact ⟨k + 1, by omega, by go_num, hF9.trans ((F9.alloc _).drewN _)⟩
                      case measure => simp [intOf]; omega
                  · go_wp2_with fail
                    go_ret
                    exact ⟨rfl, (Gw.trans hF9).below _ (Nat.le_refl _) (by simp)⟩
      · have hx' : x < 0 ∨ (l0 : Int) ≤ x := by omega
        clear hx
        rcases hx' with hx' | hx'
        · have hxx : ¬ 0 ≤ x := by omega
          go_enter Try.func8, Try.ntmps8
          go_wp2_with fail
          refine Calls.mono HB.out ?_
          rintro e w' ⟨⟨r, rfl⟩, hww⟩
          subst hww
          cases r
          all_goals
            go_wp2_with fail
          all_goals (go_ret; exact ⟨rfl, Below.refl _ _⟩)
        · go_enter Try.func8, Try.ntmps8
          go_wp2_with fail
          refine Calls.mono HB.out ?_
          rintro e w' ⟨⟨r, rfl⟩, hww⟩
          subst hww
          cases r
          all_goals
            go_wp2_with fail
          all_goals (go_ret; exact ⟨rfl, Below.refl _ _⟩)
    · go_enter Try.func8, Try.ntmps8
      go_wp2_with fail
      refine Calls.mono HB.out ?_
      rintro e w' ⟨⟨r, rfl⟩, hww⟩
      subst hww
      cases r
      all_goals
        go_wp2_with fail
      all_goals (go_ret; exact ⟨rfl, Below.refl _ _⟩)
  · go_enter Try.func8, Try.ntmps8
    go_wp2_with fail
    refine Calls.mono HB.out ?_
    rintro e w' ⟨⟨r, rfl⟩, hww⟩
    subst hww
    cases r
    all_goals
      go_wp2_with fail
    all_goals (go_ret; exact ⟨rfl, Below.refl _ _⟩)

end Go.Proofs.Qxb6613402a
