import Derived.Test.Qxb6613402aW1
import Derived.Test.Qxb6613402aW2
import Derived.Test.Qxb6613402aW4
import Derived.Test.Qxb6613402aPlain2
namespace Go.Proofs.Qxb6613402a
open Go.RowKit Go.Maps

/-- The cells of the first k numbers. -/
def vals (g : Nat → Int) (k : Nat) : List Value := (List.range k).map (fun i => Value.int .i64 (g i))
theorem vals_succ (g : Nat → Int) (k : Nat) : vals g k ++ [.int .i64 (g k)] = vals g (k + 1) := by simp [vals, List.range_succ]

theorem rd_own {w : World} {base B n cap : Nat} {g : Nat → Int} (h : w.ownsRow base 3 1 (.slice (some ⟨B, 0, none⟩) n cap) n (vals g n)) (hw : ∀ i, i < n → (Lit.int .i64 (g i)).wf = true) : RdI .i64 w (some ⟨B, 0, none⟩) B 0 n g := by
  refine ⟨fun _ => rfl, fun i hi => ?_, hw⟩
  have := h.cells (g := B) rfl i (.int .i64 (g i)) (by simp [vals, hi])
  rwa [show (⟨B, 0, none⟩ : Addr).add i = ⟨B, 0 + i, none⟩ by unfold Addr.add; split <;> simp_all] at this

theorem own_lt {w : World} {base B n cap : Nat} {xs : List Value} (h : w.ownsRow base 3 1 (.slice (some ⟨B, 0, none⟩) n cap) n xs) : B < w.heap.size := (h.lt B rfl).2

theorem own_fr {w w' : World} {S : List Nat} {base B n cap : Nat} {xs : List Value} (h : w.ownsRow base 3 1 (.slice (some ⟨B, 0, none⟩) n cap) n xs) (hf : Fr S w w') (hn : B ∉ S) : w'.ownsRow base 3 1 (.slice (some ⟨B, 0, none⟩) n cap) n xs := by
  have hl := own_lt h
  obtain ⟨h1, h2⟩ := h
  refine ⟨h1, ?_⟩
  rcases h2 with ⟨h2, _⟩ | ⟨g, c, cur, hv, hb, hh, r⟩
  · simp at h2
  · simp at hv
    obtain ⟨rfl, rfl⟩ := hv
    exact .inr ⟨B, cap, cur, rfl, hb, (hf.block B hl hn).trans hh, r⟩

theorem bytes19 (a0 a1 a2 : Option Addr) (l0 c0 l1 c1 l2 c2 : Nat) (w : World) (h0 : l0 ≤ maxLen) (h1 : l1 ≤ maxLen) (h2 : l2 ≤ maxLen) :
    Calls Try.prog 19 #[.slice a0 l0 c0, .slice a1 l1 c1, .slice a2 l2 c2] w fun e w' => (∃ r : Bool, e = .returned (.bool r)) ∧ w' = w := by
  unfold maxLen at h0 h1 h2
  go_enter Try.func19, Try.ntmps19
  go_wp2
  all_goals (go_ret; exact ⟨⟨_, rfl⟩, rfl⟩)

set_option maxRecDepth 100000 in
set_option maxHeartbeats 1000000 in
theorem walk4 (a0 : Option Addr) (b0 o0 l0 c0 : Nat) (g0 : Nat → Int) (a1 : Option Addr) (b1 o1 l1 c1 : Nat) (g1 : Nat → Int) (a2 : Option Addr) (b2 o2 l2 c2 : Nat) (g2 : Nat → Int) (w : World)
    (m0 : l0 ≤ maxLen) (m1 : l1 ≤ maxLen) (m2 : l2 ≤ maxLen) (r0 : RdI .i64 w a0 b0 o0 l0 g0) (r1 : RdI .i64 w a1 b1 o1 l1 g1) (r2 : RdI .i64 w a2 b2 o2 l2 g2) :
    Calls Try.prog 4 #[.slice a0 l0 c0, .slice a1 l1 c1, .slice a2 l2 c2] w fun e w' => e = .returned (.bool true) ∧ Below w.heap.size w w' := by
  have hB := bytes19 a0 a1 a2 l0 c0 l1 c1 l2 c2 w m0 m1 m2
  have HB : Hid _ := hB
  clear hB
  obtain ⟨i0, hi, hz0, hz1, hz2⟩ := info_parts info3
  obtain ⟨G, hG⟩ : ∃ G, CatG G g0 l0 g2 l2 := ⟨_, catG_is _ _ _ _⟩
  unfold maxLen at m0 m1 m2
  go_enter Try.func4, Try.ntmps4
  go_wp2_with fail
  refine Calls.mono HB.out ?_
  rintro e w' ⟨⟨r, rfl⟩, hww⟩
  subst hww
  cases r
  · go_wp2_with fail
    go_ret
    exact ⟨rfl, Below.refl _ _⟩
  go_wp2_with (at_make; refine wpList_make_own _ rfl _ _ 22 rfl w'.heap.size 3 i0 (.int .i64 0) 1 Try.underlying22 hi hz0 hz1 _ _ _ (l0 + l2) rfl rfl (by omega) (by rw [hz2]; omega) (by unfold maxLen; omega) (Nat.le_refl _) ?_; intro w1 own1 grow1)
  · go_ret
    exact ⟨rfl, Below.refl _ _⟩
  · go_ret
    exact ⟨rfl, Below.refl _ _⟩
  · go_ret
    exact ⟨rfl, Below.refl _ _⟩
  have F1 : Fr [] w' w1 := (Fr.refl _ _).grown grow1 (fun j hj => by cases hj)
  clear grow1 HB
  go_loopw [7, 50] (fun v i wr => ∃ k : Nat, k ≤ l0 ∧ i = .int .i64 k ∧ v = .slice (some ⟨w'.heap.size, 0, none⟩) k (l0 + l2) ∧ wr.ownsRow w'.heap.size 3 1 (.slice (some ⟨w'.heap.size, 0, none⟩) k (l0 + l2)) k (vals G k) ∧ Fr [] w' wr) (fun _ i _ => l0 - (intOf i).toNat)
  case atStart => exact ⟨0, Nat.zero_le _, rfl, rfl, own1, F1⟩
  case round =>
    clear own1 F1
    obtain ⟨k, hk, rfl, rfl, own, hfr⟩ := hrel
    by_cases hlt : k < l0
    · obtain rfl := r0.adr (by omega)
      have hc1 : wr.cell? ⟨b0, o0 + k, none⟩ = some (.int .i64 (g0 k)) := hfr.cell (r0.cell k hlt) (by simp)
      go_wp2_with (at_builtin; refine wpList_append_fits _ rfl _ _ 22 rfl w'.heap.size 3 i0 1 Try.underlying22 hi hz1 w'.heap.size k (l0 + l2) _ rfl (own.alloc _) ⟨wr.heap.size, 0, none⟩ 1 1 [.int .i64 (g0 k)] rfl rfl (cell_one_new _ _ _) (ints_oneCell .i64 [g0 k]) (by omega) ?_; intro w2 own2 grow2)
      have own3 : w2.ownsRow w'.heap.size 3 1 (.slice (some ⟨w'.heap.size, 0, none⟩) (k + 1) (l0 + l2)) (k + 1) (vals G (k + 1)) := by
        rw [← vals_succ, hG.lo k hlt]; exact own2
      have hfr2 : Fr [] w' w2 := (hfr.alloc _).grown grow2 (fun j hj hl => by cases hj; omega)
      clear own2 grow2
      go_wp2_with fail
      go_roundw
      case rel => exact ⟨k + 1, by omega, by go_num, rfl, own3, hfr2⟩
      case measure => simp [intOf]; omega
    · obtain rfl : l0 = k := by omega
      go_wp2_with fail
      go_loopw [7, 63] (fun v i wx => ∃ k2 : Nat, k2 ≤ l2 ∧ i = .int .i64 k2 ∧ v = .slice (some ⟨w'.heap.size, 0, none⟩) (l0 + k2) (l0 + l2) ∧ wx.ownsRow w'.heap.size 3 1 (.slice (some ⟨w'.heap.size, 0, none⟩) (l0 + k2) (l0 + l2)) (l0 + k2) (vals G (l0 + k2)) ∧ Fr [] w' wx) (fun _ i _ => l2 - (intOf i).toNat)
      case atStart => exact ⟨0, Nat.zero_le _, rfl, rfl, own, hfr⟩
      case round =>
        clear own hfr
        obtain ⟨k2, hk2, rfl, rfl, own, hfr⟩ := hrel
        by_cases hlt : k2 < l2
        · obtain rfl := r2.adr (by omega)
          have hc1 : wr.cell? ⟨b2, o2 + k2, none⟩ = some (.int .i64 (g2 k2)) := hfr.cell (r2.cell k2 hlt) (by simp)
          go_wp2_with (at_builtin; refine wpList_append_fits _ rfl _ _ 22 rfl w'.heap.size 3 i0 1 Try.underlying22 hi hz1 w'.heap.size (l0 + k2) (l0 + l2) _ rfl (own.alloc _) ⟨wr.heap.size, 0, none⟩ 1 1 [.int .i64 (g2 k2)] rfl rfl (cell_one_new _ _ _) (ints_oneCell .i64 [g2 k2]) (by omega) ?_; intro w2 own2 grow2)
          have own3 : w2.ownsRow w'.heap.size 3 1 (.slice (some ⟨w'.heap.size, 0, none⟩) (l0 + k2 + 1) (l0 + l2)) (l0 + k2 + 1) (vals G (l0 + k2 + 1)) := by
            rw [← vals_succ, hG.hi k2 hlt]; exact own2
          have hfr2 : Fr [] w' w2 := (hfr.alloc _).grown grow2 (fun j hj hl => by cases hj; omega)
          clear own2 grow2
          go_wp2_with fail
          go_roundw
          case rel => exact ⟨k2 + 1, by omega, by go_num, rfl, own3, hfr2⟩
          case measure => simp [intOf]; omega
        · obtain rfl : l2 = k2 := by omega
          go_wp2_with fail
          have WG : ∀ i, i < l0 + l2 → (Lit.int .i64 (G i)).wf = true := by
            intro i hi
            by_cases h : i < l0
            · rw [hG.lo i h]; exact r0.wf i h
            · have := hG.hi (i - l0) (by omega)
              rw [show l0 + (i - l0) = i by omega] at this
              rw [this]; exact r2.wf _ (by omega)
          have SG := rd_own own WG
          have dG : w'.heap.size < wr.heap.size := own_lt own
          refine Calls.mono (incr10 _ _ 0 (l0 + l2) (l0 + l2) G wr (by unfold maxLen; omega) SG) ?_
          rintro e w3 ⟨⟨r, rfl⟩, F3⟩
          have G3 := hfr.trans F3
          cases r
          · go_wp2_with fail
            go_ret
            exact ⟨rfl, G3.below _ (Nat.le_refl _) (by simp)⟩
          replace SG := SG.fr F3 (by simp)
          have R0 := r0.fr G3 (by simp)
          have R1 := r1.fr G3 (by simp)
          have R2 := r2.fr G3 (by simp)
          have s3 := F3.size
          clear r0 r1 r2 own hfr F3
          go_wp2_with fail
          refine Calls.mono (clone11 a0 b0 o0 l0 c0 g0 _ (by omega) R0) ?_
          rintro e w4 ⟨a0', hA0, rfl, S0, F4⟩
          have G4 := G3.trans F4
          replace SG := SG.fr F4 (by simp)
          replace R1 := R1.fr F4 (by simp)
          replace R2 := R2.fr F4 (by simp)
          go_wp2_with fail
          refine Calls.mono (clone11 a1 b1 o1 l1 c1 g1 _ (by omega) R1) ?_
          rintro e w5 ⟨a1', hA1, rfl, S1, F5⟩
          have G5 := G4.trans F5
          replace SG := SG.fr F5 (by simp)
          replace S0 := S0.fr F5 (by simp)
          replace R2 := R2.fr F5 (by simp)
          go_wp2_with fail
          refine Calls.mono (clone11 a2 b2 o2 l2 c2 g2 _ (by omega) R2) ?_
          rintro e w6 ⟨a2', hA2, rfl, S2, F6⟩
          have G6 := G5.trans F6
          replace SG := SG.fr F6 (by simp)
          replace S0 := S0.fr F6 (by simp)
          replace S1 := S1.fr F6 (by simp)
          clear R0 R1 R2 F4 F5 F6 G3 G4 G5
          go_wp2_with fail
          refine Calls.mono (set12 a1' _ 0 l1 _ g1 none 0 0 0 0 (fun _ => 0) _ (by omega) (by omega) S1 ⟨fun h => by omega, fun i h => by omega, fun i h => by omega⟩) ?_
          rintro e w7 ⟨rfl, T, F7⟩
          have G7 := G6.trans F7
          replace SG := SG.fr F7 (by simp)
          replace S0 := S0.fr F7 (by simp)
          replace S2 := S2.fr F7 (by simp)
          generalize (fun x => inG g1 l1 x || inG (fun _ => 0) 0 x) = f at T
          clear S1 F7 G6
          have hn1 := keepN_le f g0 l0
          generalize hk1 : keepN f g0 l0 = n1 at hn1
          have HK1 : Hid (keepN f g0 l0 = n1) := hk1
          clear hk1
          go_wp2_with fail
          refine Calls.mono (clone11 a0' _ 0 l0 _ g0 _ (by omega) S0) ?_
          rintro e w8 ⟨a3, hA3, rfl, S3, F8⟩
          have G8 := G7.trans F8
          replace SG := SG.fr F8 (by simp)
          replace S0 := S0.fr F8 (by simp)
          replace S2 := S2.fr F8 (by simp)
          replace T := T.fr F8 (by simp)
          have d0 : 0 < l0 → w3.heap.size < w8.heap.size := fun h => S0.lt h
          have d2 : 0 < l2 → w5.heap.size < w8.heap.size := fun h => S2.lt h
          have d3 : 0 < l0 → w7.heap.size < w8.heap.size := fun h => S3.lt h
          have dG8 : 0 < l0 + l2 → w'.heap.size < w8.heap.size := fun h => SG.lt h
          have dT := T.lt
          have s8 := G8.size
          clear F8 G7
          go_wp2_with fail
          refine Calls.mono (new13 a3 l0 l0 _) ?_
          rintro e w9 ⟨rfl, W9, F9⟩
          have G9 := G8.trans F9
          have s9 := F9.size
          replace SG := SG.fr F9 (by simp)
          replace S0 := S0.fr F9 (by simp)
          replace S2 := S2.fr F9 (by simp)
          replace S3 := S3.fr F9 (by simp)
          replace T := T.fr F9 (by simp)
          go_wp2_with fail
          have C10 := wlast14 a3 _ 0 l0 l0 g0 w8.heap.size _ _ f w9 (by omega) (Nat.le_refl _) (by unfold maxLen; omega) W9 S3 (fun h => by have := d3 h; omega) T
          rw [HK1.out] at C10
          refine Calls.mono C10 ?_
          clear C10
          rintro e w10 ⟨rfl, W10, F10⟩
          have G10 : Fr [] w' w10 := G9.transNew F10 (by intro x hx hl; simp at hx; omega)
          replace SG := SG.fr F10 (by intro h; have := dG8 h; simp; omega)
          replace S0 := S0.fr F10 (by intro h; have := d0 h; simp; omega)
          replace S2 := S2.fr F10 (by intro h; have := d2 h; simp; omega)
          replace S3 := S3.fr F10 (by intro h; have := d3 h; simp; omega)
          replace T := T.fr F10 (by simp; omega)
          clear F9 F10 W9 G8 G9
          go_wp2_with fail
          refine Calls.mono (at15 a3 n1 l0 _ _ W10) ?_
          rintro e wx ⟨rfl, hxx⟩
          subst hxx
          go_wp2_with fail
          have C11 := live16 a0' _ 0 l0 l0 g0 _ _ f wx (by omega) S0 T
          rw [HK1.out] at C11
          refine Calls.mono C11 ?_
          clear C11
          rintro e w11 ⟨rfl, F11⟩
          have G11 := G10.trans F11
          replace SG := SG.fr F11 (by simp)
          replace S0 := S0.fr F11 (by simp)
          replace S2 := S2.fr F11 (by simp)
          replace S3 := S3.fr F11 (by simp)
          replace T := T.fr F11 (by simp)
          clear F11 G10 W10
          go_wp2_with fail
          refine Calls.mono (answer17 a0' _ 0 l0 l0 g0 n1 w11 (by omega) hn1 S0) ?_
          rintro e wz ⟨rfl, hzz⟩
          subst hzz
          go_wp2_with fail
          refine Calls.mono (same18 a3 _ 0 n1 l0 a0' _ 0 l0 g0 wz (by omega) (S3.take hn1) (S0.take hn1)) ?_
          rintro e w12 ⟨rfl, F12⟩
          have G12 := G11.trans F12
          replace SG := SG.fr F12 (by simp)
          replace S0 := S0.fr F12 (by simp)
          replace S2 := S2.fr F12 (by simp)
          replace S3 := (S3.take hn1).fr F12 (by simp)
          replace T := T.fr F12 (by simp)
          clear F12 G11
          go_wp2_with (at_make; refine wpList_make_own _ rfl _ _ 22 rfl w12.heap.size 3 i0 (.int .i64 0) 1 Try.underlying22 hi hz0 hz1 _ _ _ (n1 + l2) rfl rfl (by omega) (by rw [hz2]; omega) (by unfold maxLen; omega) (Nat.le_refl _) ?_; intro w13 own13 grow13)
          obtain ⟨R, hR⟩ : ∃ R, CatG R g0 n1 g2 l2 := ⟨_, catG_is _ _ _ _⟩
          have F13 : Fr [] w12 w13 := (Fr.refl _ _).grown grow13 (fun j hj => by cases hj)
          clear grow13
          go_loopw [16, 122] (fun v i wr => ∃ k : Nat, k ≤ n1 ∧ i = .int .i64 k ∧ v = .slice (some ⟨w12.heap.size, 0, none⟩) k (n1 + l2) ∧ wr.ownsRow w12.heap.size 3 1 (.slice (some ⟨w12.heap.size, 0, none⟩) k (n1 + l2)) k (vals R k) ∧ Fr [] w12 wr) (fun _ i _ => n1 - (intOf i).toNat)
          case atStart => exact ⟨0, Nat.zero_le _, rfl, rfl, own13, F13⟩
          case round =>
            clear own13 F13
            obtain ⟨k, hk, rfl, rfl, own, hfr⟩ := hrel
            by_cases hlt : k < n1
            · obtain rfl := S3.adr (by omega)
              have hc1 : wr.cell? ⟨w7.heap.size, 0 + k, none⟩ = some (.int .i64 (g0 k)) := hfr.cell (S3.cell k hlt) (by simp)
              rw [Nat.zero_add] at hc1
              go_wp2_with (at_builtin; refine wpList_append_fits _ rfl _ _ 22 rfl w12.heap.size 3 i0 1 Try.underlying22 hi hz1 w12.heap.size k (n1 + l2) _ rfl (own.alloc _) ⟨wr.heap.size, 0, none⟩ 1 1 [.int .i64 (g0 k)] rfl rfl (cell_one_new _ _ _) (ints_oneCell .i64 [g0 k]) (by omega) ?_; intro w2 own2 grow2)
              have own3 : w2.ownsRow w12.heap.size 3 1 (.slice (some ⟨w12.heap.size, 0, none⟩) (k + 1) (n1 + l2)) (k + 1) (vals R (k + 1)) := by
                rw [← vals_succ, hR.lo k hlt]; exact own2
              have hfr2 : Fr [] w12 w2 := (hfr.alloc _).grown grow2 (fun j hj hl => by cases hj; omega)
              clear own2 grow2
              go_wp2_with fail
              go_roundw
              case rel => exact ⟨k + 1, by omega, by go_num, rfl, own3, hfr2⟩
              case measure => simp [intOf]; omega
            · obtain rfl : n1 = k := by omega
              go_wp2_with fail
              go_loopw [16, 135] (fun v i wx => ∃ k2 : Nat, k2 ≤ l2 ∧ i = .int .i64 k2 ∧ v = .slice (some ⟨w12.heap.size, 0, none⟩) (n1 + k2) (n1 + l2) ∧ wx.ownsRow w12.heap.size 3 1 (.slice (some ⟨w12.heap.size, 0, none⟩) (n1 + k2) (n1 + l2)) (n1 + k2) (vals R (n1 + k2)) ∧ Fr [] w12 wx) (fun _ i _ => l2 - (intOf i).toNat)
              case atStart => exact ⟨0, Nat.zero_le _, rfl, rfl, own, hfr⟩
              case round =>
                clear own hfr
                obtain ⟨k2, hk2, rfl, rfl, own, hfr⟩ := hrel
                by_cases hlt : k2 < l2
                · obtain rfl := S2.adr (by omega)
                  have hc1 : wr.cell? ⟨w5.heap.size, 0 + k2, none⟩ = some (.int .i64 (g2 k2)) := hfr.cell (S2.cell k2 hlt) (by simp)
                  rw [Nat.zero_add] at hc1
                  go_wp2_with (at_builtin; refine wpList_append_fits _ rfl _ _ 22 rfl w12.heap.size 3 i0 1 Try.underlying22 hi hz1 w12.heap.size (n1 + k2) (n1 + l2) _ rfl (own.alloc _) ⟨wr.heap.size, 0, none⟩ 1 1 [.int .i64 (g2 k2)] rfl rfl (cell_one_new _ _ _) (ints_oneCell .i64 [g2 k2]) (by omega) ?_; intro w2 own2 grow2)
                  have own3 : w2.ownsRow w12.heap.size 3 1 (.slice (some ⟨w12.heap.size, 0, none⟩) (n1 + k2 + 1) (n1 + l2)) (n1 + k2 + 1) (vals R (n1 + k2 + 1)) := by
                    rw [← vals_succ, hR.hi k2 hlt]; exact own2
                  have hfr2 : Fr [] w12 w2 := (hfr.alloc _).grown grow2 (fun j hj hl => by cases hj; omega)
                  clear own2 grow2
                  go_wp2_with fail
                  go_roundw
                  case rel => exact ⟨k2 + 1, by omega, by go_num, rfl, own3, hfr2⟩
                  case measure => simp [intOf]; omega
                · obtain rfl : l2 = k2 := by omega
                  go_wp2_with fail
                  have WR : ∀ i, i < n1 + l2 → (Lit.int .i64 (R i)).wf = true := by
                    intro i hi
                    by_cases h : i < n1
                    · rw [hR.lo i h]; exact S0.wf i (by omega)
                    · have := hR.hi (i - n1) (by omega)
                      rw [show n1 + (i - n1) = i by omega] at this
                      rw [this]; exact S2.wf _ (by omega)
                  have SR := rd_own own WR
                  have dR : w12.heap.size < wr.heap.size := own_lt own
                  have Gr := G12.trans hfr
                  have s12 := G12.size
                  replace SG := SG.fr hfr (by simp)
                  replace S0 := S0.fr hfr (by simp)
                  replace S2 := S2.fr hfr (by simp)
                  replace T := T.fr hfr (by simp)
                  have eG : 0 < l0 + l2 → w'.heap.size < wr.heap.size := fun h => SG.lt h
                  have e0 : 0 < l0 → w3.heap.size < wr.heap.size := fun h => S0.lt h
                  have e2 : 0 < l2 → w5.heap.size < wr.heap.size := fun h => S2.lt h
                  have eT := T.lt
                  clear own hfr S3
                  refine Calls.mono (new13 _ (n1 + l2) (n1 + l2) _) ?_
                  rintro e w14 ⟨rfl, W14, F14⟩
                  have G14 := Gr.trans F14
                  have s14 := F14.size
                  replace SG := SG.fr F14 (by simp)
                  replace S0 := S0.fr F14 (by simp)
                  replace S2 := S2.fr F14 (by simp)
                  replace SR := SR.fr F14 (by simp)
                  replace T := T.fr F14 (by simp)
                  go_wp2_with fail
                  have hnr := keepN_le f R (n1 + l2)
                  have hna := keepN_le f G (l0 + l2)
                  have HLC : Hid _ := last_cat HK1.out hG hR hn1
                  have C15 := wlast14 (some ⟨w12.heap.size, 0, none⟩) _ 0 (n1 + l2) (n1 + l2) R wr.heap.size _ _ f w14 (by omega) (Nat.le_refl _) (by unfold maxLen; omega) W14 SR (fun h => by omega) T
                  generalize hkr : keepN f R (n1 + l2) = nr at hnr HLC C15
                  generalize hka : keepN f G (l0 + l2) = na at hna HLC
                  have HKR : Hid (keepN f R (n1 + l2) = nr) := hkr
                  have HKA : Hid (keepN f G (l0 + l2) = na) := hka
                  clear hkr hka
                  refine Calls.mono C15 ?_
                  clear C15
                  rintro e w15 ⟨rfl, W15, F15⟩
                  have G15 : Fr [] w' w15 := G14.transNew F15 (by intro x hx hl; simp at hx; omega)
                  replace SG := SG.fr F15 (by intro h; have := eG h; simp; omega)
                  replace S0 := S0.fr F15 (by intro h; have := e0 h; simp; omega)
                  replace S2 := S2.fr F15 (by intro h; have := e2 h; simp; omega)
                  replace SR := SR.fr F15 (by intro h; simp; omega)
                  replace T := T.fr F15 (by simp; omega)
                  clear F14 F15 W14 G14 Gr
                  go_wp2_with fail
                  refine Calls.mono (at15 _ nr (n1 + l2) _ _ W15) ?_
                  rintro e wx ⟨rfl, hxx⟩
                  subst hxx
                  go_wp2_with (at_make; refine wpList_make_own _ rfl _ _ 22 rfl wx.heap.size 3 i0 (.int .i64 0) 1 Try.underlying22 hi hz0 hz1 _ _ _ (l0 + l2) rfl rfl (by omega) (by rw [hz2]; omega) (by unfold maxLen; omega) (Nat.le_refl _) ?_; intro w16 own16 grow16)
                  have F16 : Fr [] wx w16 := (Fr.refl _ _).grown grow16 (fun j hj => by cases hj)
                  clear grow16
                  go_wp2_with fail
                  go_loopw [23, 24] (fun v i wr => ∃ k : Nat, k ≤ n1 ∧ i = .int .i64 k ∧ v = .slice (some ⟨wx.heap.size, 0, none⟩) k (l0 + l2) ∧ wr.ownsRow wx.heap.size 3 1 (.slice (some ⟨wx.heap.size, 0, none⟩) k (l0 + l2)) k (vals R k) ∧ Fr [] wx wr) (fun _ i _ => n1 - (intOf i).toNat)
                  case atStart => exact ⟨0, Nat.zero_le _, rfl, rfl, own16, F16⟩
                  case round =>
                    clear own16 F16
                    obtain ⟨k, hk, rfl, rfl, own, hfr⟩ := hrel
                    by_cases hlt : k < n1
                    · obtain rfl := S0.adr (by omega)
                      have hc1 : wr.cell? ⟨w3.heap.size, 0 + k, none⟩ = some (.int .i64 (g0 k)) := hfr.cell (S0.cell k (by omega)) (by simp)
                      rw [Nat.zero_add] at hc1
                      go_wp2_with (at_builtin; refine wpList_append_fits _ rfl _ _ 22 rfl wx.heap.size 3 i0 1 Try.underlying22 hi hz1 wx.heap.size k (l0 + l2) _ rfl (own.alloc _) ⟨wr.heap.size, 0, none⟩ 1 1 [.int .i64 (g0 k)] rfl rfl (cell_one_new _ _ _) (ints_oneCell .i64 [g0 k]) (by omega) ?_; intro w2 own2 grow2)
                      have own3 : w2.ownsRow wx.heap.size 3 1 (.slice (some ⟨wx.heap.size, 0, none⟩) (k + 1) (l0 + l2)) (k + 1) (vals R (k + 1)) := by
                        rw [← vals_succ, hR.lo k hlt]; exact own2
                      have hfr2 : Fr [] wx w2 := (hfr.alloc _).grown grow2 (fun j hj hl => by cases hj; omega)
                      clear own2 grow2
                      go_wp2_with fail
                      go_roundw
                      case rel => exact ⟨k + 1, by omega, by go_num, rfl, own3, hfr2⟩
                      case measure => simp [intOf]; omega
                    · obtain rfl : n1 = k := by omega
                      go_wp2_with fail
                      go_loopw [23, 176] (fun v i wy => ∃ k2 : Nat, k2 ≤ l2 ∧ i = .int .i64 k2 ∧ v = .slice (some ⟨wx.heap.size, 0, none⟩) (n1 + k2) (l0 + l2) ∧ wy.ownsRow wx.heap.size 3 1 (.slice (some ⟨wx.heap.size, 0, none⟩) (n1 + k2) (l0 + l2)) (n1 + k2) (vals R (n1 + k2)) ∧ Fr [] wx wy) (fun _ i _ => l2 - (intOf i).toNat)
                      case atStart => exact ⟨0, Nat.zero_le _, rfl, rfl, own, hfr⟩
                      case round =>
                        clear own hfr
                        obtain ⟨k2, hk2, rfl, rfl, own, hfr⟩ := hrel
                        by_cases hlt : k2 < l2
                        · obtain rfl := S2.adr (by omega)
                          have hc1 : wr.cell? ⟨w5.heap.size, 0 + k2, none⟩ = some (.int .i64 (g2 k2)) := hfr.cell (S2.cell k2 hlt) (by simp)
                          rw [Nat.zero_add] at hc1
                          go_wp2_with (at_builtin; refine wpList_append_fits _ rfl _ _ 22 rfl wx.heap.size 3 i0 1 Try.underlying22 hi hz1 wx.heap.size (n1 + k2) (l0 + l2) _ rfl (own.alloc _) ⟨wr.heap.size, 0, none⟩ 1 1 [.int .i64 (g2 k2)] rfl rfl (cell_one_new _ _ _) (ints_oneCell .i64 [g2 k2]) (by omega) ?_; intro w2 own2 grow2)
                          have own3 : w2.ownsRow wx.heap.size 3 1 (.slice (some ⟨wx.heap.size, 0, none⟩) (n1 + k2 + 1) (l0 + l2)) (n1 + k2 + 1) (vals R (n1 + k2 + 1)) := by
                            rw [← vals_succ, hR.hi k2 hlt]; exact own2
                          have hfr2 : Fr [] wx w2 := (hfr.alloc _).grown grow2 (fun j hj hl => by cases hj; omega)
                          clear own2 grow2
                          go_wp2_with fail
                          go_roundw
                          case rel => exact ⟨k2 + 1, by omega, by go_num, rfl, own3, hfr2⟩
                          case measure => simp [intOf]; omega
                        · obtain rfl : l2 = k2 := by omega
                          go_wp2_with fail
                          have SE := rd_own own WR
                          have Ge := G15.trans hfr
                          replace SG := SG.fr hfr (by simp)
                          replace SR := SR.fr hfr (by simp)
                          replace T := T.fr hfr (by simp)
                          clear own hfr G15
                          have C17 := live16 (some ⟨wx.heap.size, 0, none⟩) _ 0 (n1 + l2) (l0 + l2) R _ _ f wr (by omega) SE T
                          rw [HKR.out] at C17
                          refine Calls.mono C17 ?_
                          clear C17
                          rintro e w17 ⟨rfl, F17⟩
                          have G17 := Ge.trans F17
                          replace SG := SG.fr F17 (by simp)
                          replace SR := SR.fr F17 (by simp)
                          replace SE := SE.fr F17 (by simp)
                          replace T := T.fr F17 (by simp)
                          go_wp2_with fail
                          have C18 := live16 (some ⟨w'.heap.size, 0, none⟩) _ 0 (l0 + l2) (l0 + l2) G _ _ f w17 (by omega) SG T
                          rw [HKA.out] at C18
                          refine Calls.mono C18 ?_
                          clear C18
                          rintro e w18 ⟨rfl, F18⟩
                          have G18 := G17.trans F18
                          replace SG := SG.fr F18 (by simp)
                          replace SR := SR.fr F18 (by simp)
                          replace SE := SE.fr F18 (by simp)
                          go_wp2_with fail
                          have C19 := answer17 (some ⟨w'.heap.size, 0, none⟩) _ 0 (l0 + l2) (l0 + l2) G na w18 (by omega) hna SG
                          rw [← HLC.out.1, ← HLC.out.2] at C19
                          refine Calls.mono C19 ?_
                          clear C19
                          rintro e wz ⟨rfl, hzz⟩
                          subst hzz
                          go_wp2_with fail
                          refine Calls.mono (same18 (some ⟨w12.heap.size, 0, none⟩) _ 0 nr (n1 + l2) (some ⟨wx.heap.size, 0, none⟩) _ 0 (l0 + l2) R wz (by omega) (SR.take hnr) (SE.take hnr)) ?_
                          rintro e w19 ⟨rfl, F19⟩
                          have G19 := G18.trans F19
                          go_wp2_with fail
                          go_ret
                          exact ⟨rfl, G19.below _ (Nat.le_refl _) (by simp)⟩

end Go.Proofs.Qxb6613402a
