import Derived.Test.Qxb6613559aW3
import Derived.Laws.CopyOwn
import Derived.Laws.Cover3
namespace Go.Proofs.Qxb6613559a
open Go.RowKit

/-- The mask's values. -/
def maskL (m : Nat → Bool) (n : Nat) : List Value := (List.range n).map (fun i => Value.bool (m i))
theorem maskL_len (m : Nat → Bool) (n : Nat) : (maskL m n).length = n := by simp [maskL]
theorem maskL_get (m : Nat → Bool) (n i : Nat) (h : i < n) : (maskL m n)[i]? = some (.bool (m i)) := by simp [maskL, h]
theorem maskL_one (m : Nat → Bool) (n : Nat) : ∀ v ∈ maskL m n, v.oneCell' = true := by
  intro v hv
  simp only [maskL, List.mem_map] at hv
  obtain ⟨i, _, rfl⟩ := hv
  rfl

theorem splice_all {cur : List Value} {cs : List Value} (h : cur.length = cs.length) : splice cur 0 cs = cs := by
  simp [splice, h]

theorem rd_of_copy {w : World} {g n : Nat} {m : Nat → Bool} {cur : List Value} (hc : cur.length = n) (H : w.heap[g]? = some (.cells (splice cur 0 (maskL m n)).toArray 4 (0, 0))) : RdB w (some ⟨g, 0, none⟩) g 0 n m := by
  rw [splice_all (by rw [hc, maskL_len])] at H
  have hr : w.rowIs g 4 n (fun i => .bool (m i)) := ⟨_, H, by simp [maskL_len], fun i hi => by simpa using maskL_get m n i hi⟩
  exact ⟨fun _ => rfl, fun i hi => by rw [Nat.zero_add]; exact hr.cell hi⟩

theorem src_copy {w w' : World} {b off n : Nat} {m : Nat → Bool} (h : RdB w (some ⟨b, off, none⟩) b off n m) (hf : Fr [] w w') : ∀ j v, (maskL m n)[j]? = some v → w'.cell? ((⟨b, off, none⟩ : Addr).add j) = some v := by
  intro j v hv
  have hj : j < n := by
    have := (List.getElem?_eq_some_iff.1 hv).1
    rwa [maskL_len] at this
  rw [maskL_get m n j hj] at hv
  cases hv
  have := hf.cell (h.cell j hj) (by simp)
  rwa [show (⟨b, off, none⟩ : Addr).add j = ⟨b, off + j, none⟩ by unfold Addr.add; split <;> simp_all]

theorem info4s : (Try.prog.info? 4).map (·.size) = some 1 := by kernel_rfl

/-- The clone of a mask by make and copy. -/
theorem copy_mask (w : World) (a : Option Addr) (b off n cap : Nat) (m : Nat → Bool) (h : RdB w a b off n m) :
    ∃ w2, (Builtin.copy_ #[22, 22] 3 #[.slice (some ⟨w.heap.size, 0, none⟩) n n, .slice a n cap]).run Try.prog (w.alloc (.cells (madeCells #[.bool false] n) 4)) = .ok (.int .i64 n) w2 ∧ RdB w2 (some ⟨w.heap.size, 0, none⟩) w.heap.size 0 n m ∧ Fr [] w w2 := by
  rcases Nat.eq_zero_or_pos n with h0 | h0
  · subst h0
    exact ⟨_, run_copy_none (P := Try.prog) _ 22 22 3 4 _ _ 0 0 0 cap Try.underlying22 info4s (by simp), ⟨fun h => by omega, fun i hi => by omega⟩, (Fr.refl _ _).alloc _⟩
  · obtain rfl := h.adr h0
    have hg : (w.alloc (.cells (madeCells #[.bool false] n) 4)).heap[w.heap.size]? = some (.cells (madeCells #[.bool false] n) 4 (0, 0)) := Go.Deep.blk_alloc_new _ _
    have hrun := run_copy_row (P := Try.prog) (w.alloc (.cells (madeCells #[.bool false] n) 4)) 22 22 3 4 w.heap.size 0 n n ⟨b, off, none⟩ n cap (madeCells #[.bool false] n) 4 (maskL m n) Try.underlying22 info4s hg (by rw [maskL_len]; simp) (src_copy h ((Fr.refl _ _).alloc _)) (by simp [maskL_len, size_madeCells]) (maskL_one m n)
    rw [maskL_len] at hrun
    refine ⟨_, hrun, ?_, Fr.of_below (below_setRow (((Fr.refl [] _).alloc _).below _ (Nat.le_refl _) (by simp)) (Nat.le_refl _) _)⟩
    have hh := setRow_heap (w.alloc (.cells (madeCells #[.bool false] n) 4)) w.heap.size _ (splice (madeCells #[.bool false] n).toList 0 (maskL m n)).toArray 4 _ hg
    have := rd_of_copy (n := n) (by simp [size_madeCells]) hh
    simpa [splice, maskL_len] using this

theorem updB_same (f : Nat → Bool) (k : Nat) (v : Bool) : updB f k v k = v := by simp [updB]
theorem updB_other (f : Nat → Bool) {k i : Nat} (v : Bool) (h : i ≠ k) : updB f k v i = f i := by simp [updB, h]
theorem updB_twice (f : Nat → Bool) (k : Nat) (v : Bool) : updB (updB f k v) k v = updB f k v := by funext i; unfold updB; split <;> rfl

set_option maxRecDepth 100000 in
set_option maxHeartbeats 1000000 in
theorem walk3 (a : Option Addr) (b off n cap : Nat) (m : Nat → Bool) (x : Int) (w : World) (m0 : n ≤ maxLen) (r : RdB w a b off n m) :
    Calls Try.prog 3 #[.slice a n cap, .int .i64 x] w fun e w' => e = .returned (.bool true) ∧ Below w.heap.size w w' := by
  have HB : Hid _ := bytes7 a n cap x w m0
  unfold maxLen at m0
  by_cases hn : n ≤ 4096
  · by_cases hx : 0 ≤ x ∧ x < n
    · obtain ⟨hx0, hx1⟩ := hx
      obtain ⟨kk, rfl⟩ : ∃ kk : Nat, x = (kk : Int) := ⟨x.toNat, by omega⟩
      have hkk : kk < n := by omega
      have hn0 : 0 < n := by omega
      obtain rfl := r.adr hn0
      have hmk := run_make_row' (P := Try.prog) 22 4 (.bool false) 1 Try.underlying22 info4 rfl .i64 .i64 n (by omega) (by omega)
      obtain ⟨w2, hcp, S0, G2⟩ := copy_mask w _ b off n cap m r
      clear r m0
      go_enter Try.func3, Try.ntmps3
      go_wp2_with fail
      refine Calls.mono HB.out ?_
      rintro e w' ⟨⟨r, rfl⟩, hww⟩
      subst hww
      clear HB
      cases r
      · go_wp2_with fail
        go_ret
        exact ⟨rfl, Below.refl _ _⟩
      go_wp2_with fail
      clear hmk hcp
      have l0 := S0.lt hn0
      refine Calls.mono (new8 _ _ 0 n n m w2 hn S0) ?_
      rintro e w3 ⟨rfl, hR, F3⟩
      have G3 := G2.trans F3
      replace S0 := S0.fr F3 (by simp)
      generalize hbq : w2.heap.size = bq at hR
      have HBQ : Hid (w2.heap.size = bq) := hbq
      clear hbq
      have hq1 : w'.heap.size ∉ [bq + 1, bq] := by have := HBQ.out; simp; omega
      have HQ1 : Hid (w'.heap.size ∉ [bq + 1, bq]) := hq1
      have hq2 : ∀ y, y ∈ [bq + 1, bq] → y < w'.heap.size → y ∈ ([] : List Nat) := by intro y hy hl; have := HBQ.out; simp at hy; omega
      have HQ2 : Hid (∀ y, y ∈ [bq + 1, bq] → y < w'.heap.size → y ∈ ([] : List Nat)) := hq2
      clear hq1 hq2 l0
      go_wp2_with fail
      refine Calls.mono (gave9 w3 (bq + 1) bq n kk m m m hR hkk) ?_
      rintro e w4 ⟨rfl, hR4, F4⟩
      go_wp2_with fail
      refine Calls.mono (gave9 w4 (bq + 1) bq n kk m _ _ hR4 hkk) ?_
      rintro e w5 ⟨rfl, hR5, F5⟩
      rw [updB_twice] at hR5
      rw [updB_same]
      have G5 : Fr [] w' w5 := G3.transNew (F4.trans F5) HQ2.out
      replace S0 := S0.fr (F4.trans F5) (fun _ => HQ1.out)
      have k0 : w5.cell? ⟨w'.heap.size, kk, none⟩ = some (.bool (m kk)) := by have := S0.cell kk hkk; rwa [Nat.zero_add] at this
      clear hR hR4 F3 F4 F5 G2 G3
      go_wp2_with fail
      go_loopw [9] (fun i wr => ∃ k : Nat, k ≤ n ∧ i = .int .i64 k ∧ Fr [] w5 wr) (fun i _ => n - (intOf i).toNat)
      case atStart => exact ⟨0, Nat.zero_le _, rfl, Fr.refl _ _⟩
      case round =>
        obtain ⟨k, hk, rfl, hF⟩ := hrel
        clear k0
        by_cases hlt : k < n
        · have hki : (k : Int) < (n : Int) := by omega
          have c0 : wr.cell? ⟨w'.heap.size, k, none⟩ = some (.bool (m k)) := by have := hF.cell (S0.cell k hlt) (by simp); rwa [Nat.zero_add] at this
          have hRr : RoundAt wr (bq + 1) bq n m (updB m kk false) (updB m kk false) := hR5.fr hF (by simp) (by simp)
          have C10 : Hid _ := held10 wr (bq + 1) bq n k _ _ _ hRr hlt
          have C11 : Hid _ := behind11 wr (bq + 1) bq n k _ _ _ hRr hlt
          have hcase : (m k = false ∧ updB m kk false k = false ∧ (k : Int) ≠ -1) ∨ (k = kk ∧ m k = true) ∨ (k ≠ kk ∧ m k = true) := by
            cases hm : m k
            · refine .inl ⟨rfl, ?_, by omega⟩
              unfold updB
              split
              · rfl
              · exact hm
            · by_cases e : k = kk
              · exact .inr (.inl ⟨e, rfl⟩)
              · exact .inr (.inr ⟨e, rfl⟩)
          rcases hcase with ⟨h1, h2, _⟩ | ⟨h0, h1⟩ | ⟨h0, h1⟩
          · rw [h1] at c0
            have HM : Hid (m k = false ∧ updB m kk false k = false) := ⟨h1, h2⟩
            clear h1 h2
            go_wp2_with fail
            refine Calls.mono C10.out ?_
            rintro e w6 ⟨rfl, rfl⟩
            rw [HM.out.2]
            go_wp2_with fail
            refine Calls.mono C11.out ?_
            rintro e w6 ⟨rfl, rfl⟩
            rw [HM.out.2]
            clear C10 C11
            go_wp2_with fail
            go_region_held (fun wz => wz.cell? ⟨w'.heap.size, k, none⟩ = some (.bool false)) (go_keep)
              ((go_at_call 12; refine Calls.mono (running12 _ (bq + 1) bq n k _ _ _ (hRr.fr ((Fr.refl [] _).drew) (by simp) (by simp)) hlt) ?_; rintro e w7 ⟨rfl, rfl⟩; rw [HM.out.1]))
            go_wp2_with fail
            go_roundw
            case rel => exact ⟨k + 1, by omega, by go_num, hF.drew⟩
            case measure => simp [intOf]; omega
          · have hkj : ((k : Int) != (kk : Int)) = false := by simp; omega
            rw [h1] at c0
            have HM : Hid (m k = true ∧ updB m kk false k = false) := ⟨h1, by rw [h0]; exact updB_same _ _ _⟩
            clear h1 h0
            go_wp2_with fail
            refine Calls.mono C10.out ?_
            rintro e w6 ⟨rfl, rfl⟩
            rw [HM.out.2]
            go_wp2_with fail
            refine Calls.mono C11.out ?_
            rintro e w6 ⟨rfl, rfl⟩
            rw [HM.out.2]
            clear C10 C11
            go_wp2_with fail
            go_region_held (fun wz => wz.cell? ⟨w'.heap.size, k, none⟩ = some (.bool true)) (go_keep)
              ((go_at_call 12; refine Calls.mono (running12 _ (bq + 1) bq n k _ _ _ (hRr.fr ((Fr.refl [] _).drew) (by simp) (by simp)) hlt) ?_; rintro e w7 ⟨rfl, rfl⟩; rw [HM.out.1]))
            go_wp2_with fail
            go_roundw
            case rel => exact ⟨k + 1, by omega, by go_num, hF.drew⟩
            case measure => simp [intOf]; omega
          · have hkj : ((k : Int) != (kk : Int)) = true := by simp; omega
            rw [h1] at c0
            have HM : Hid (m k = true ∧ updB m kk false k = true) := ⟨h1, by rw [updB_other _ _ h0]; exact h1⟩
            clear h1 h0
            go_wp2_with fail
            refine Calls.mono C10.out ?_
            rintro e w6 ⟨rfl, rfl⟩
            rw [HM.out.2]
            go_wp2_with fail
            refine Calls.mono C11.out ?_
            rintro e w6 ⟨rfl, rfl⟩
            rw [HM.out.2]
            clear C10 C11
            go_wp2_with fail
            go_region_held (fun wz => wz.cell? ⟨w'.heap.size, k, none⟩ = some (.bool true)) (go_keep)
              ((go_at_call 12; refine Calls.mono (running12 _ (bq + 1) bq n k _ _ _ (hRr.fr ((Fr.refl [] _).drew) (by simp) (by simp)) hlt) ?_; rintro e w7 ⟨rfl, rfl⟩; rw [HM.out.1]))
            go_wp2_with fail
            go_roundw
            case rel => exact ⟨k + 1, by omega, by go_num, hF.drew⟩
            case measure => simp [intOf]; omega
        · go_wp2_with fail
          go_ret
          exact ⟨rfl, (G5.trans hF).below _ (Nat.le_refl _) (by simp)⟩
    · have hx' : x < 0 ∨ (n : Int) ≤ x := by omega
      clear hx
      rcases hx' with hx' | hx'
      · have hxx : ¬ 0 ≤ x := by omega
        go_enter Try.func3, Try.ntmps3
        go_wp2_with fail
        refine Calls.mono HB.out ?_
        rintro e w' ⟨⟨r, rfl⟩, hww⟩
        subst hww
        cases r
        all_goals
          go_wp2_with fail
        all_goals (go_ret; exact ⟨rfl, Below.refl _ _⟩)
      · go_enter Try.func3, Try.ntmps3
        go_wp2_with fail
        refine Calls.mono HB.out ?_
        rintro e w' ⟨⟨r, rfl⟩, hww⟩
        subst hww
        cases r
        all_goals
          go_wp2_with fail
        all_goals (go_ret; exact ⟨rfl, Below.refl _ _⟩)
  · go_enter Try.func3, Try.ntmps3
    go_wp2_with fail
    refine Calls.mono HB.out ?_
    rintro e w' ⟨⟨r, rfl⟩, hww⟩
    subst hww
    cases r
    all_goals
      go_wp2_with fail
    all_goals (go_ret; exact ⟨rfl, Below.refl _ _⟩)

end Go.Proofs.Qxb6613559a
