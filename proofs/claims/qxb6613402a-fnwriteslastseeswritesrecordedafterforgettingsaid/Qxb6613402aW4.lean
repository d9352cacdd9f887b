import Derived.Test.Qxb6613402aW3
namespace Go.Proofs.Qxb6613402a
open Go.RowKit Go.Maps

/-- Last: it forgets the aborted tail, and hands back the last that is kept. -/
theorem last34 (a : Option Addr) (b off len cap : Nat) (g : Nat → Int) (bw bc bm n : Nat) (f : Int → Bool) (w : World) (hl : len ≤ 1048576) (hcap : len ≤ cap) (hcm : cap ≤ maxLen)
    (hw : w.rowIs bw 56 1 (fun _ => .slice a len cap)) (hr : RdI .i64 w a b off len g) (hb : 0 < len → b ≠ bw)
    (hc : w.cell? ⟨bc, 0, none⟩ = some (.map (some bm))) (hs : SetAt Try.prog 3 4 .i64 w bm n f) :
    Calls Try.prog 34 #[.pointer (some ⟨bw, 0, none⟩), .func (.func 35) #[] #[.pointer (some ⟨bc, 0, none⟩)]] w fun e w' =>
      e = .returned (.tuple #[.int .i64 (lastOf g (keepN f g len)), .bool (posB (keepN f g len))]) ∧ w'.rowIs bw 56 1 (fun _ => .slice a (keepN f g len) cap) ∧ Fr [bw] w w' := by
  unfold maxLen at hcm
  have hcw : w.cell? ⟨bw, 0, none⟩ = some (.slice a len cap) := hw.cell (by omega)
  have hfw : w.frozen? ⟨bw, 0, none⟩ = false := hw.frozen 0
  have hset : ∀ v, (w.setCell ⟨bw, 0, none⟩ v).rowIs bw 56 1 (fun _ => v) := fun v => (hw.set 0 v).congr (fun i hi => by simp; omega)
  rcases a with _ | ad
  · have h0 : len = 0 := by
      rcases Nat.eq_zero_or_pos len with h | h
      · exact h
      · exact absurd (hr.adr h) (by simp)
    subst h0
    rw [show keepN f g 0 = 0 from rfl]
    go_enter Try.func34, Try.ntmps34
    go_wp2_with fail
    refine wp_loop_rounds 1 ?_
    rw [rounds_succ]
    go_wp2_with fail
    go_ret2
    exact ⟨rfl, hset _, (Fr.refl _ _).setCell (.inl (by simp)) _⟩
  · have fin : ∀ k, 0 < k → f (g (k - 1)) = false → keepN f g k = keepN f g len → keepN f g len = k := by
      intro k hk hf he
      rw [← he, show k = (k - 1) + 1 by omega, keepN_miss hf]
    go_enter Try.func34, Try.ntmps34
    go_wp2_with fail
    go_loopw [6] (fun i wr => ∃ k : Nat, k ≤ len ∧ i = .int .i64 k ∧ keepN f g k = keepN f g len ∧ wr = w) (fun i _ => (intOf i).toNat)
    case atStart => exact ⟨len, Nat.le_refl _, rfl, rfl, rfl⟩
    case round =>
      obtain ⟨k, hk, rfl, hkk, hww⟩ := hrel
      subst hww
      have HK : Hid (keepN f g k = keepN f g len) := hkk
      have FIN : Hid (∀ k, 0 < k → f (g (k - 1)) = false → keepN f g k = keepN f g len → keepN f g len = k) := fin
      have HS : Hid (∀ v, (wr.setCell ⟨bw, 0, none⟩ v).rowIs bw 56 1 (fun _ => v)) := hset
      clear hkk fin hset
      by_cases h0 : 0 < k
      · have hra := hr.adr (by omega)
        obtain rfl := Option.some.inj hra
        have hc1 : wr.cell? ⟨b, off + (k - 1), none⟩ = some (.int .i64 (g (k - 1))) := hr.cell (k - 1) (by omega)
        have hbw : b ≠ bw := hb (by omega)
        cases hf : f (g (k - 1))
        · have HF : Hid (keepN f g len = k) := FIN.out k h0 hf HK.out
          go_wp2_with (go_at_call 35; refine (pred35 _ bc bm n f _ hc hs (hr.wf (k - 1) (by omega))).mono ?_; rintro e w' ⟨rfl, rfl⟩)
          go_ret2
          rw [HF.out]
          exact ⟨by simp [lastOf, posB_pos, show ¬ k = 0 by omega], HS.out _, (Fr.refl _ _).setCell (.inl (by simp)) _⟩
        · have HF : Hid (keepN f g (k - 1) = keepN f g len) := by
            rw [← HK.out, show k = (k - 1) + 1 by omega, keepN_hit hf]; rfl
          go_wp2_with (go_at_call 35; refine (pred35 _ bc bm n f _ hc hs (hr.wf (k - 1) (by omega))).mono ?_; rintro e w' ⟨rfl, rfl⟩)
          go_roundw
          case rel => exact ⟨k - 1, by omega, by go_num, HF.out, by first | rfl | trivial⟩
          case measure => simp [intOf]; omega
      · obtain rfl : k = 0 := by omega
        have HF : Hid (keepN f g len = 0) := by rw [← HK.out]; rfl
        go_wp2_with fail
        go_ret2
        rw [HF.out]
        exact ⟨rfl, HS.out _, (Fr.refl _ _).setCell (.inl (by simp)) _⟩

/-- ZZWritesLast: Last under 'is it in the map'. -/
theorem wlast14 (a : Option Addr) (b off len cap : Nat) (g : Nat → Int) (bw bm n : Nat) (f : Int → Bool) (w : World) (hl : len ≤ 1048576) (hcap : len ≤ cap) (hcm : cap ≤ maxLen)
    (hw : w.rowIs bw 56 1 (fun _ => .slice a len cap)) (hr : RdI .i64 w a b off len g) (hb : 0 < len → b ≠ bw) (hs : SetAt Try.prog 3 4 .i64 w bm n f) :
    Calls Try.prog 14 #[.pointer (some ⟨bw, 0, none⟩), .map (some bm)] w fun e w' =>
      e = .returned (.tuple #[.int .i64 (lastOf g (keepN f g len)), .bool (posB (keepN f g len))]) ∧ w'.rowIs bw 56 1 (fun _ => .slice a (keepN f g len) cap) ∧ Fr [bw] w w' := by
  have hf0 : Fr [] w (w.alloc (.cells #[.map (some bm)] 26)) := (Fr.refl _ _).alloc _
  have hL := last34 a b off len cap g bw w.heap.size bm n f (w.alloc (.cells #[.map (some bm)] 26)) hl hcap hcm (hf0.row hw (by simp)) (hr.fr hf0 (by simp)) hb (by simp) (hs.fr hf0 (by simp))
  have HL : Hid _ := hL
  clear hL
  go_enter Try.func14, Try.ntmps14
  go_wp2_with (go_at_call 34; refine Calls.mono HL.out ?_; rintro e w' ⟨rfl, hrow, hfr⟩)
  go_ret2
  exact ⟨rfl, hrow, (hf0.mono (T := [bw]) (by simp)).trans hfr⟩

end Go.Proofs.Qxb6613402a
