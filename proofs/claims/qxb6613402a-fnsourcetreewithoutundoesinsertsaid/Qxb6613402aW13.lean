import Derived.Test.Qxb6613402aW12
namespace Go.Proofs.Qxb6613402a
open Go.RowKit
open Go.Deep (BT)

theorem ztop30 (s : Sh) (M : Mem) (k : Nat) (w : World) (h : TreeAt s w M) (hk : k < s.n) :
    Calls Try.prog 30 #[.pointer (some ⟨s.bt, 0, none⟩), .int .i32 k] w fun e w' => e = .returned (.int .i64 (M.T k)) ∧ Fr [] w w' := by
  have c0 : w.cell? ⟨s.bt, 0, none⟩ = some (.slice (some ⟨s.bk, 0, none⟩) 1 1) := h.head.cell (by omega)
  have c3 : w.cell? ⟨s.bt, 3, none⟩ = some (.slice (some ⟨s.bp, 0, none⟩) s.n s.cp) := h.head.cell (by omega)
  have t1 : w.cell? ⟨s.bp, k, none⟩ = some (.int .i64 (M.T k)) := h.cellT hk
  have hn := h.hn
  have hk' : (k : Int) < (s.n : Int) := by omega
  go_enter Try.func30, Try.ntmps30
  go_wp2_with fail
  go_quiet (fail)
  go_wp2_with fail
  go_ret
  exact ⟨rfl, (Fr.refl _ _).drewN _⟩

theorem TreeAt.fr0 {s : Sh} {w w' : World} {M : Mem} (h : TreeAt s w M) (hf : Fr [] w w') : TreeAt s w' M := h.fr hf (by simp) (by simp) (by simp) (by simp)

theorem ret_mb {a b : Int} (h : a = b) : Ending.returned (.tuple #[.int .i64 a, .bool true]) = .returned (.tuple #[.int .i64 b, .bool true]) := by rw [h]

set_option maxRecDepth 100000 in
set_option maxHeartbeats 2000000 in
theorem submax39 (s : Sh) (M : Mem) (a1 : Option Addr) (b1 o1 c1 : Nat) : ∀ (t : BT Unit) (r : Int) (w : World), t ≠ .nil → TreeAt s w M → In s.tx M t r → (∀ j ∈ keys t, j < s.n) → RdI .i64 w a1 b1 o1 s.n s.tx →
    Calls Try.prog 39 #[.pointer (some ⟨s.bt, 0, none⟩), .int .i32 r, .slice a1 s.n c1] w fun e w' => e = .returned (.tuple #[.int .i64 (topT s.tx t), .bool true]) ∧ Fr [] w w'
  | .nil, _, _, hne, _, _, _, _ => absurd rfl hne
  | .node k o u l rr, r, w, _, h, hin, hb, hr => by
    obtain ⟨rfl, hl, hrr, hT⟩ := hin
    have hk : k < s.n := hb k (by simp [keys])
    have hn := h.hn
    obtain rfl := hr.adr (by omega)
    have bl : ∀ j ∈ keys l, j < s.n := fun j hj => hb j (by simp [keys, hj])
    have br : ∀ j ∈ keys rr, j < s.n := fun j hj => hb j (by simp [keys, hj])
    have Z : Hid _ := znode29 s M k w h hk
    have HTT : Hid (M.T k = topT s.tx (.node k o u l rr)) := hT
    clear hT
    cases l with
    | nil =>
      have eL : M.L k = -1 := hl
      rw [eL] at Z
      cases rr with
      | nil =>
        have eR : M.R k = -1 := hrr
        rw [eR] at Z
        have HT : Hid (M.T k = s.tx k) := HTT.out
        clear eL eR hl hrr
        go_enter Try.func39, Try.ntmps39
        go_wp2_with fail
        refine Calls.mono Z.out ?_
        rintro e w1 ⟨rfl, F1⟩
        clear Z
        have h1 := h.fr0 F1
        have k1 : w1.cell? ⟨b1, o1 + k, none⟩ = some (.int .i64 (s.tx k)) := F1.cell (hr.cell k hk) (by simp)
        have l1 : b1 < w1.heap.size := lt_of_cell k1
        go_wp2_with fail
        refine Calls.mono (ztop30 s M k _ (h1.fr0 ((Fr.refl _ _).alloc _)) hk) ?_
        rintro e wz ⟨rfl, Fz⟩
        rw [HT.out]
        go_wp2_with fail
        go_ret2
        exact ⟨ret_mb (HT.out.symm.trans HTT.out), (F1.alloc _).trans Fz⟩
      | node k3 o3 u3 l3 r3 =>
        have eR : M.R k = (k3 : Int) := hrr.1
        rw [eR] at Z hrr
        have HT0 : Hid (M.T k = max (s.tx k) (topT s.tx (.node k3 o3 u3 l3 r3))) := HTT.out
        clear eL eR hl
        obtain ⟨tb, hB⟩ : ∃ v, topT s.tx (.node k3 o3 u3 l3 r3) = v := ⟨_, rfl⟩
        rw [hB] at HT0
        have HB : Hid (topT s.tx (.node k3 o3 u3 l3 r3) = tb) := hB
        clear hB
        by_cases c : s.tx k < tb
        · have HT : Hid (M.T k = tb) := by (have := HT0.out; show _ = _; omega)
          go_enter Try.func39, Try.ntmps39
          go_wp2_with fail
          refine Calls.mono Z.out ?_
          rintro e w1 ⟨rfl, F1⟩
          clear Z
          have h1 := h.fr0 F1
          have k1 : w1.cell? ⟨b1, o1 + k, none⟩ = some (.int .i64 (s.tx k)) := F1.cell (hr.cell k hk) (by simp)
          have l1 : b1 < w1.heap.size := lt_of_cell k1
          go_wp2_with fail
          refine Calls.mono (submax39 s M _ b1 o1 c1 (.node k3 o3 u3 l3 r3) k3 _ (by simp) (h1.fr0 ((Fr.refl _ _).alloc _)) hrr br (hr.fr (F1.alloc _) (by simp))) ?_
          rintro e w3 ⟨rfl, F3⟩
          have G3 : Fr [] w w3 := (F1.alloc _).trans F3
          have h3 := h.fr0 G3
          rw [HB.out]
          go_wp2_with fail
          refine Calls.mono (ztop30 s M k _ h3 hk) ?_
          rintro e wz ⟨rfl, Fz⟩
          rw [HT.out]
          go_wp2_with fail
          go_ret2
          exact ⟨ret_mb (HT.out.symm.trans HTT.out), G3.trans Fz⟩
        · have HT : Hid (M.T k = s.tx k) := by (have := HT0.out; show _ = _; omega)
          go_enter Try.func39, Try.ntmps39
          go_wp2_with fail
          refine Calls.mono Z.out ?_
          rintro e w1 ⟨rfl, F1⟩
          clear Z
          have h1 := h.fr0 F1
          have k1 : w1.cell? ⟨b1, o1 + k, none⟩ = some (.int .i64 (s.tx k)) := F1.cell (hr.cell k hk) (by simp)
          have l1 : b1 < w1.heap.size := lt_of_cell k1
          go_wp2_with fail
          refine Calls.mono (submax39 s M _ b1 o1 c1 (.node k3 o3 u3 l3 r3) k3 _ (by simp) (h1.fr0 ((Fr.refl _ _).alloc _)) hrr br (hr.fr (F1.alloc _) (by simp))) ?_
          rintro e w3 ⟨rfl, F3⟩
          have G3 : Fr [] w w3 := (F1.alloc _).trans F3
          have h3 := h.fr0 G3
          rw [HB.out]
          go_wp2_with fail
          refine Calls.mono (ztop30 s M k _ h3 hk) ?_
          rintro e wz ⟨rfl, Fz⟩
          rw [HT.out]
          go_wp2_with fail
          go_ret2
          exact ⟨ret_mb (HT.out.symm.trans HTT.out), G3.trans Fz⟩
    | node k2 o2 u2 l2 r2 =>
      have eL : M.L k = (k2 : Int) := hl.1
      rw [eL] at Z hl
      obtain ⟨ta, hA⟩ : ∃ v, topT s.tx (.node k2 o2 u2 l2 r2) = v := ⟨_, rfl⟩
      have HA : Hid (topT s.tx (.node k2 o2 u2 l2 r2) = ta) := hA
      clear hA
      cases rr with
      | nil =>
        have eR : M.R k = -1 := hrr
        rw [eR] at Z
        have HT0 : Hid (M.T k = max (s.tx k) (topT s.tx (.node k2 o2 u2 l2 r2))) := HTT.out
        rw [HA.out] at HT0
        clear eL eR hrr
        by_cases c : s.tx k < ta
        · have HT : Hid (M.T k = ta) := by (have := HT0.out; show _ = _; omega)
          go_enter Try.func39, Try.ntmps39
          go_wp2_with fail
          refine Calls.mono Z.out ?_
          rintro e w1 ⟨rfl, F1⟩
          clear Z
          have h1 := h.fr0 F1
          have k1 : w1.cell? ⟨b1, o1 + k, none⟩ = some (.int .i64 (s.tx k)) := F1.cell (hr.cell k hk) (by simp)
          have l1 : b1 < w1.heap.size := lt_of_cell k1
          go_wp2_with fail
          refine Calls.mono (submax39 s M _ b1 o1 c1 (.node k2 o2 u2 l2 r2) k2 _ (by simp) (h1.fr0 ((Fr.refl _ _).alloc _)) hl bl (hr.fr (F1.alloc _) (by simp))) ?_
          rintro e w2 ⟨rfl, F2⟩
          have G2 : Fr [] w w2 := (F1.alloc _).trans F2
          have h2 := h.fr0 G2
          rw [HA.out]
          go_wp2_with fail
          refine Calls.mono (ztop30 s M k _ h2 hk) ?_
          rintro e wz ⟨rfl, Fz⟩
          rw [HT.out]
          go_wp2_with fail
          go_ret2
          exact ⟨ret_mb (HT.out.symm.trans HTT.out), G2.trans Fz⟩
        · have HT : Hid (M.T k = s.tx k) := by (have := HT0.out; show _ = _; omega)
          go_enter Try.func39, Try.ntmps39
          go_wp2_with fail
          refine Calls.mono Z.out ?_
          rintro e w1 ⟨rfl, F1⟩
          clear Z
          have h1 := h.fr0 F1
          have k1 : w1.cell? ⟨b1, o1 + k, none⟩ = some (.int .i64 (s.tx k)) := F1.cell (hr.cell k hk) (by simp)
          have l1 : b1 < w1.heap.size := lt_of_cell k1
          go_wp2_with fail
          refine Calls.mono (submax39 s M _ b1 o1 c1 (.node k2 o2 u2 l2 r2) k2 _ (by simp) (h1.fr0 ((Fr.refl _ _).alloc _)) hl bl (hr.fr (F1.alloc _) (by simp))) ?_
          rintro e w2 ⟨rfl, F2⟩
          have G2 : Fr [] w w2 := (F1.alloc _).trans F2
          have h2 := h.fr0 G2
          rw [HA.out]
          go_wp2_with fail
          refine Calls.mono (ztop30 s M k _ h2 hk) ?_
          rintro e wz ⟨rfl, Fz⟩
          rw [HT.out]
          go_wp2_with fail
          go_ret2
          exact ⟨ret_mb (HT.out.symm.trans HTT.out), G2.trans Fz⟩
      | node k3 o3 u3 l3 r3 =>
        have eR : M.R k = (k3 : Int) := hrr.1
        rw [eR] at Z hrr
        have HT0 : Hid (M.T k = max (max (s.tx k) (topT s.tx (.node k2 o2 u2 l2 r2))) (topT s.tx (.node k3 o3 u3 l3 r3))) := HTT.out
        obtain ⟨tb, hB⟩ : ∃ v, topT s.tx (.node k3 o3 u3 l3 r3) = v := ⟨_, rfl⟩
        rw [HA.out, hB] at HT0
        have HB : Hid (topT s.tx (.node k3 o3 u3 l3 r3) = tb) := hB
        clear hB eL eR
        by_cases c : s.tx k < ta
        · by_cases c' : ta < tb
          · have HT : Hid (M.T k = tb) := by (have := HT0.out; show _ = _; omega)
            go_enter Try.func39, Try.ntmps39
            go_wp2_with fail
            refine Calls.mono Z.out ?_
            rintro e w1 ⟨rfl, F1⟩
            clear Z
            have h1 := h.fr0 F1
            have k1 : w1.cell? ⟨b1, o1 + k, none⟩ = some (.int .i64 (s.tx k)) := F1.cell (hr.cell k hk) (by simp)
            have l1 : b1 < w1.heap.size := lt_of_cell k1
            go_wp2_with fail
            refine Calls.mono (submax39 s M _ b1 o1 c1 (.node k2 o2 u2 l2 r2) k2 _ (by simp) (h1.fr0 ((Fr.refl _ _).alloc _)) hl bl (hr.fr (F1.alloc _) (by simp))) ?_
            rintro e w2 ⟨rfl, F2⟩
            have G2 : Fr [] w w2 := (F1.alloc _).trans F2
            have h2 := h.fr0 G2
            rw [HA.out]
            go_wp2_with fail
            refine Calls.mono (submax39 s M _ b1 o1 c1 (.node k3 o3 u3 l3 r3) k3 _ (by simp) h2 hrr br (hr.fr G2 (by simp))) ?_
            rintro e w3 ⟨rfl, F3⟩
            have G3 : Fr [] w w3 := G2.trans F3
            have h3 := h.fr0 G3
            rw [HB.out]
            go_wp2_with fail
            refine Calls.mono (ztop30 s M k _ h3 hk) ?_
            rintro e wz ⟨rfl, Fz⟩
            rw [HT.out]
            go_wp2_with fail
            go_ret2
            exact ⟨ret_mb (HT.out.symm.trans HTT.out), G3.trans Fz⟩
          · have HT : Hid (M.T k = ta) := by (have := HT0.out; show _ = _; omega)
            go_enter Try.func39, Try.ntmps39
            go_wp2_with fail
            refine Calls.mono Z.out ?_
            rintro e w1 ⟨rfl, F1⟩
            clear Z
            have h1 := h.fr0 F1
            have k1 : w1.cell? ⟨b1, o1 + k, none⟩ = some (.int .i64 (s.tx k)) := F1.cell (hr.cell k hk) (by simp)
            have l1 : b1 < w1.heap.size := lt_of_cell k1
            go_wp2_with fail
            refine Calls.mono (submax39 s M _ b1 o1 c1 (.node k2 o2 u2 l2 r2) k2 _ (by simp) (h1.fr0 ((Fr.refl _ _).alloc _)) hl bl (hr.fr (F1.alloc _) (by simp))) ?_
            rintro e w2 ⟨rfl, F2⟩
            have G2 : Fr [] w w2 := (F1.alloc _).trans F2
            have h2 := h.fr0 G2
            rw [HA.out]
            go_wp2_with fail
            refine Calls.mono (submax39 s M _ b1 o1 c1 (.node k3 o3 u3 l3 r3) k3 _ (by simp) h2 hrr br (hr.fr G2 (by simp))) ?_
            rintro e w3 ⟨rfl, F3⟩
            have G3 : Fr [] w w3 := G2.trans F3
            have h3 := h.fr0 G3
            rw [HB.out]
            go_wp2_with fail
            refine Calls.mono (ztop30 s M k _ h3 hk) ?_
            rintro e wz ⟨rfl, Fz⟩
            rw [HT.out]
            go_wp2_with fail
            go_ret2
            exact ⟨ret_mb (HT.out.symm.trans HTT.out), G3.trans Fz⟩
        · by_cases c' : s.tx k < tb
          · have HT : Hid (M.T k = tb) := by (have := HT0.out; show _ = _; omega)
            go_enter Try.func39, Try.ntmps39
            go_wp2_with fail
            refine Calls.mono Z.out ?_
            rintro e w1 ⟨rfl, F1⟩
            clear Z
            have h1 := h.fr0 F1
            have k1 : w1.cell? ⟨b1, o1 + k, none⟩ = some (.int .i64 (s.tx k)) := F1.cell (hr.cell k hk) (by simp)
            have l1 : b1 < w1.heap.size := lt_of_cell k1
            go_wp2_with fail
            refine Calls.mono (submax39 s M _ b1 o1 c1 (.node k2 o2 u2 l2 r2) k2 _ (by simp) (h1.fr0 ((Fr.refl _ _).alloc _)) hl bl (hr.fr (F1.alloc _) (by simp))) ?_
            rintro e w2 ⟨rfl, F2⟩
            have G2 : Fr [] w w2 := (F1.alloc _).trans F2
            have h2 := h.fr0 G2
            rw [HA.out]
            go_wp2_with fail
            refine Calls.mono (submax39 s M _ b1 o1 c1 (.node k3 o3 u3 l3 r3) k3 _ (by simp) h2 hrr br (hr.fr G2 (by simp))) ?_
            rintro e w3 ⟨rfl, F3⟩
            have G3 : Fr [] w w3 := G2.trans F3
            have h3 := h.fr0 G3
            rw [HB.out]
            go_wp2_with fail
            refine Calls.mono (ztop30 s M k _ h3 hk) ?_
            rintro e wz ⟨rfl, Fz⟩
            rw [HT.out]
            go_wp2_with fail
            go_ret2
            exact ⟨ret_mb (HT.out.symm.trans HTT.out), G3.trans Fz⟩
          · have HT : Hid (M.T k = s.tx k) := by (have := HT0.out; show _ = _; omega)
            go_enter Try.func39, Try.ntmps39
            go_wp2_with fail
            refine Calls.mono Z.out ?_
            rintro e w1 ⟨rfl, F1⟩
            clear Z
            have h1 := h.fr0 F1
            have k1 : w1.cell? ⟨b1, o1 + k, none⟩ = some (.int .i64 (s.tx k)) := F1.cell (hr.cell k hk) (by simp)
            have l1 : b1 < w1.heap.size := lt_of_cell k1
            go_wp2_with fail
            refine Calls.mono (submax39 s M _ b1 o1 c1 (.node k2 o2 u2 l2 r2) k2 _ (by simp) (h1.fr0 ((Fr.refl _ _).alloc _)) hl bl (hr.fr (F1.alloc _) (by simp))) ?_
            rintro e w2 ⟨rfl, F2⟩
            have G2 : Fr [] w w2 := (F1.alloc _).trans F2
            have h2 := h.fr0 G2
            rw [HA.out]
            go_wp2_with fail
            refine Calls.mono (submax39 s M _ b1 o1 c1 (.node k3 o3 u3 l3 r3) k3 _ (by simp) h2 hrr br (hr.fr G2 (by simp))) ?_
            rintro e w3 ⟨rfl, F3⟩
            have G3 : Fr [] w w3 := G2.trans F3
            have h3 := h.fr0 G3
            rw [HB.out]
            go_wp2_with fail
            refine Calls.mono (ztop30 s M k _ h3 hk) ?_
            rintro e wz ⟨rfl, Fz⟩
            rw [HT.out]
            go_wp2_with fail
            go_ret2
            exact ⟨ret_mb (HT.out.symm.trans HTT.out), G3.trans Fz⟩

end Go.Proofs.Qxb6613402a
