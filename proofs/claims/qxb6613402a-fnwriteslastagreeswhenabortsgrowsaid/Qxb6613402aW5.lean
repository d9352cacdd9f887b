import Derived.Test.Qxb6613402aW1
import Derived.Test.Qxb6613402aW2
import Derived.Test.Qxb6613402aW4
namespace Go.Proofs.Qxb6613402a
open Go.RowKit Go.Maps

set_option maxRecDepth 100000 in
set_option maxHeartbeats 1000000 in
theorem walk3 (a0 : Option Addr) (b0 o0 l0 c0 : Nat) (g0 : Nat → Int) (a1 : Option Addr) (b1 o1 l1 c1 : Nat) (g1 : Nat → Int) (a2 : Option Addr) (b2 o2 l2 c2 : Nat) (g2 : Nat → Int) (w : World)
    (m0 : l0 ≤ maxLen) (m1 : l1 ≤ maxLen) (m2 : l2 ≤ maxLen) (r0 : RdI .i64 w a0 b0 o0 l0 g0) (r1 : RdI .i64 w a1 b1 o1 l1 g1) (r2 : RdI .i64 w a2 b2 o2 l2 g2) :
    Calls Try.prog 3 #[.slice a0 l0 c0, .slice a1 l1 c1, .slice a2 l2 c2] w fun e w' => e = .returned (.bool true) ∧ Below w.heap.size w w' := by
  have hB := bytes9 a0 a1 a2 l0 c0 l1 c1 l2 c2 w m0 m1 m2
  have hI := incr10 a0 b0 o0 l0 c0 g0 w m0 r0
  have HB : Hid _ := hB
  have HI : Hid _ := hI
  clear hB hI
  unfold maxLen at m0 m1 m2
  go_enter Try.func3, Try.ntmps3
  go_wp2_with fail
  refine Calls.mono HB.out ?_
  rintro e w' ⟨⟨r, rfl⟩, rfl⟩
  cases r
  · go_wp2_with fail
    go_ret
    exact ⟨rfl, Below.refl _ _⟩
  go_wp2_with fail
  · go_ret
    exact ⟨rfl, Below.refl _ _⟩
  · go_ret
    exact ⟨rfl, Below.refl _ _⟩
  · go_ret
    exact ⟨rfl, Below.refl _ _⟩
  refine Calls.mono HI.out ?_
  rintro e w1 ⟨⟨r, rfl⟩, F1⟩
  cases r
  · go_wp2_with fail
    go_ret
    exact ⟨rfl, F1.below _ (Nat.le_refl _) (by simp)⟩
  have R0 := r0.fr F1 (by simp)
  have R1 := r1.fr F1 (by simp)
  have R2 := r2.fr F1 (by simp)
  clear r0 r1 r2 HB HI
  go_wp2_with fail
  refine Calls.mono (clone11 a0 b0 o0 l0 c0 g0 _ (by omega) R0) ?_
  rintro e w2 ⟨a0', hA0, rfl, S0, F2⟩
  replace R1 := R1.fr F2 (by simp)
  replace R2 := R2.fr F2 (by simp)
  have G2 := F1.trans F2
  go_wp2_with fail
  refine Calls.mono (clone11 a1 b1 o1 l1 c1 g1 _ (by omega) R1) ?_
  rintro e w3 ⟨a1', hA1, rfl, S1, F3⟩
  replace R2 := R2.fr F3 (by simp)
  replace S0 := S0.fr F3 (by simp)
  have G3 := G2.trans F3
  go_wp2_with fail
  refine Calls.mono (clone11 a2 b2 o2 l2 c2 g2 _ (by omega) R2) ?_
  rintro e w4 ⟨a2', hA2, rfl, S2, F4⟩
  replace S0 := S0.fr F4 (by simp)
  replace S1 := S1.fr F4 (by simp)
  have G4 := G3.trans F4
  clear R0 R1 R2 F1 F2 F3 F4 G2 G3
  go_wp2_with fail
  refine Calls.mono (set12 a1' _ 0 l1 _ g1 none 0 0 0 0 (fun _ => 0) _ (by omega) (by omega) S1 ⟨fun h => by omega, fun i h => by omega, fun i h => by omega⟩) ?_
  rintro e w5 ⟨rfl, T1, F5⟩
  replace S0 := S0.fr F5 (by simp)
  replace S1 := S1.fr F5 (by simp)
  replace S2 := S2.fr F5 (by simp)
  have G5 := G4.trans F5
  go_wp2_with fail
  refine Calls.mono (set12 a1' _ 0 l1 _ g1 a2' _ 0 l2 _ g2 _ (by omega) (by omega) S1 S2) ?_
  rintro e w6 ⟨rfl, T2, F6⟩
  replace S0 := S0.fr F6 (by simp)
  replace T1 := T1.fr F6 (by simp)
  have G6 := G5.trans F6
  clear S1 S2 F5 F6 G4 G5
  go_wp2_with fail
  refine Calls.mono (clone11 a0' _ 0 l0 _ g0 _ (by omega) S0) ?_
  rintro e w7 ⟨a3, hA3, rfl, S3, F7⟩
  replace S0 := S0.fr F7 (by simp)
  replace T1 := T1.fr F7 (by simp)
  replace T2 := T2.fr F7 (by simp)
  have G7 := G6.trans F7
  go_wp2_with fail
  refine Calls.mono (new13 a3 l0 l0 _) ?_
  rintro e w8 ⟨rfl, W8, F8⟩
  have HF : Hid (∀ x, (inG g1 l1 x || inG (fun _ => 0) 0 x) = true → (inG g1 l1 x || inG g2 l2 x) = true) := by
    intro x hx
    simp only [inG, Bool.or_false] at hx
    simp [hx]
  generalize hf1 : (fun x => inG g1 l1 x || inG (fun _ => 0) 0 x) = f1 at T1
  generalize hf2 : (fun x => inG g1 l1 x || inG g2 l2 x) = f2 at T2
  have HFF : Hid (∀ x, f1 x = true → f2 x = true) := by
    intro x hx
    rw [← hf1] at hx
    rw [← hf2]
    exact HF.out x hx
  have HN : Hid (keepN f2 g0 (keepN f1 g0 l0) = keepN f2 g0 l0) := keepN_again f1 f2 g0 HFF.out l0
  clear hf1 hf2 HF HFF
  have hn1 := keepN_le f1 g0 l0
  have hn2 := keepN_le f2 g0 l0
  generalize hk1 : keepN f1 g0 l0 = n1 at HN hn1
  generalize hk2 : keepN f2 g0 l0 = n2 at HN hn2
  have HK1 : Hid (keepN f1 g0 l0 = n1) := hk1
  have HK2 : Hid (keepN f2 g0 l0 = n2) := hk2
  clear hk1 hk2
  have d0 : 0 < l0 → w1.heap.size < w7.heap.size := fun h => S0.lt h
  have d3 : 0 < l0 → w6.heap.size < w7.heap.size := fun h => S3.lt h
  have dT1 := T1.lt
  have dT2 := T2.lt
  have G8 := G7.trans F8
  have s8 := F8.size
  have s7 := G7.size
  replace S0 := S0.fr F8 (by simp)
  replace S3 := S3.fr F8 (by simp)
  replace T1 := T1.fr F8 (by simp)
  replace T2 := T2.fr F8 (by simp)
  go_wp2_with fail
  have C9 := wlast14 a3 _ 0 l0 l0 g0 w7.heap.size _ _ f1 w8 (by omega) (Nat.le_refl _) (by unfold maxLen; omega) W8 S3 (fun h => by have := d3 h; omega) T1
  rw [HK1.out] at C9
  refine Calls.mono C9 ?_
  clear C9
  rintro e w9 ⟨rfl, W9, F9⟩
  have G9 : Fr [] w' w9 := G8.transNew F9 (by intro x hx hl; simp at hx; omega)
  replace S0 := S0.fr F9 (by intro h; have := d0 h; simp; omega)
  replace S3 := S3.fr F9 (by intro h; have := d3 h; simp; omega)
  replace T1 := T1.fr F9 (by simp; omega)
  replace T2 := T2.fr F9 (by simp; omega)
  go_wp2_with fail
  have C10 := wlast14 a3 _ 0 n1 l0 g0 w7.heap.size _ _ f2 w9 (by omega) hn1 (by unfold maxLen; omega) W9 (S3.take hn1) (fun h => by have := d3 (by omega); omega) T2
  rw [HN.out] at C10
  refine Calls.mono C10 ?_
  clear C10
  rintro e w10 ⟨rfl, W10, F10⟩
  have G10 : Fr [] w' w10 := G9.transNew F10 (by intro x hx hl; simp at hx; omega)
  replace S0 := S0.fr F10 (by intro h; have := d0 h; simp; omega)
  replace S3 := S3.fr F10 (by intro h; have := d3 h; simp; omega)
  replace T1 := T1.fr F10 (by simp; omega)
  replace T2 := T2.fr F10 (by simp; omega)
  clear W8 W9 F8 F9 F10 G6 G7 G8 G9
  go_wp2_with fail
  refine Calls.mono (at15 a3 n2 l0 _ _ W10) ?_
  rintro e wx ⟨rfl, rfl⟩
  go_wp2_with fail
  refine Calls.mono (clone11 a0' _ 0 l0 _ g0 _ (by omega) S0) ?_
  rintro e w11 ⟨a4, hA4, rfl, S4, F11⟩
  have G11 := G10.trans F11
  replace W10 := F11.row W10 (by simp)
  replace S0 := S0.fr F11 (by simp)
  replace S3 := S3.fr F11 (by simp)
  replace T1 := T1.fr F11 (by simp)
  replace T2 := T2.fr F11 (by simp)
  have e0 : 0 < l0 → w1.heap.size < w11.heap.size := fun h => S0.lt h
  have e3 : 0 < l0 → w6.heap.size < w11.heap.size := fun h => S3.lt h
  have e4 : 0 < l0 → wx.heap.size < w11.heap.size := fun h => S4.lt h
  have eT1 := T1.lt
  have eT2 := T2.lt
  have s11 := G11.size
  go_wp2_with fail
  refine Calls.mono (new13 a4 l0 l0 _) ?_
  rintro e w12 ⟨rfl, W12, F12⟩
  have G12 := G11.trans F12
  have s12 := F12.size
  replace W10 := F12.row W10 (by simp)
  replace S0 := S0.fr F12 (by simp)
  replace S3 := S3.fr F12 (by simp)
  replace S4 := S4.fr F12 (by simp)
  replace T1 := T1.fr F12 (by simp)
  replace T2 := T2.fr F12 (by simp)
  go_wp2_with fail
  have C13 := wlast14 a4 _ 0 l0 l0 g0 w11.heap.size _ _ f2 w12 (by omega) (Nat.le_refl _) (by unfold maxLen; omega) W12 S4 (fun h => by have := e4 h; omega) T2
  rw [HK2.out] at C13
  refine Calls.mono C13 ?_
  clear C13
  rintro e w13 ⟨rfl, W13, F13⟩
  have G13 : Fr [] w' w13 := G12.transNew F13 (by intro x hx hl; simp at hx; omega)
  replace S0 := S0.fr F13 (by intro h; have := e0 h; simp; omega)
  replace S3 := S3.fr F13 (by intro h; have := e3 h; simp; omega)
  replace S4 := S4.fr F13 (by intro h; have := e4 h; simp; omega)
  replace T1 := T1.fr F13 (by simp; omega)
  replace T2 := T2.fr F13 (by simp; omega)
  clear W10 W12 F11 F12 F13 G10 G11 G12
  go_wp2_with fail
  refine Calls.mono (at15 a4 n2 l0 _ _ W13) ?_
  rintro e wy ⟨rfl, rfl⟩
  go_wp2_with fail
  have C14 := live16 a0' _ 0 l0 l0 g0 _ _ f1 wy (by omega) S0 T1
  rw [HK1.out] at C14
  refine Calls.mono C14 ?_
  clear C14
  rintro e w14 ⟨rfl, F14⟩
  have G14 := G13.trans F14
  replace S0 := S0.fr F14 (by simp)
  replace S3 := S3.fr F14 (by simp)
  replace S4 := S4.fr F14 (by simp)
  replace T2 := T2.fr F14 (by simp)
  go_wp2_with fail
  have C15 := live16 a0' _ 0 l0 l0 g0 _ _ f2 w14 (by omega) S0 T2
  rw [HK2.out] at C15
  refine Calls.mono C15 ?_
  clear C15
  rintro e w15 ⟨rfl, F15⟩
  have G15 := G14.trans F15
  replace S0 := S0.fr F15 (by simp)
  replace S3 := S3.fr F15 (by simp)
  replace S4 := S4.fr F15 (by simp)
  clear T1 T2 F14 F15 G13 G14 W13
  go_wp2_with fail
  refine Calls.mono (answer17 a0' _ 0 l0 l0 g0 n1 w15 (by omega) hn1 S0) ?_
  rintro e wz ⟨rfl, rfl⟩
  go_wp2_with fail
  refine Calls.mono (answer17 a0' _ 0 l0 l0 g0 n2 wz (by omega) hn2 S0) ?_
  rintro e wz2 ⟨rfl, rfl⟩
  have hbb : (posB n2 == posB n2) = true := by simp
  go_wp2_with fail
  refine Calls.mono (same18 a3 _ 0 n2 l0 a0' _ 0 l0 g0 wz2 (by omega) (S3.take hn2) (S0.take hn2)) ?_
  rintro e w16 ⟨rfl, F16⟩
  have G16 := G15.trans F16
  replace S0 := S0.fr F16 (by simp)
  replace S4 := S4.fr F16 (by simp)
  go_wp2_with fail
  refine Calls.mono (same18 a4 _ 0 n2 l0 a0' _ 0 l0 g0 w16 (by omega) (S4.take hn2) (S0.take hn2)) ?_
  rintro e w17 ⟨rfl, F17⟩
  have G17 := G16.trans F17
  go_wp2_with fail
  go_ret
  exact ⟨rfl, G17.below _ (Nat.le_refl _) (by simp)⟩

end Go.Proofs.Qxb6613402a
