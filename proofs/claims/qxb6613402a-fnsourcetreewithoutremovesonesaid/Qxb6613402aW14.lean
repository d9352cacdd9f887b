import Derived.Test.Qxb6613402aW13
import Derived.Test.Qxb6613402aTrav
namespace Go.Proofs.Qxb6613402a
open Go.RowKit
open Go.Deep (BT)

theorem info4 : (Try.prog.info? 4).map (fun i => (i.zero, i.size, i.bytes)) = some (some (.bool false), 1, 1) := by kernel_rfl
theorem info21 : (Try.prog.info? 21).map (fun i => (i.zero, i.size, i.bytes)) = some (some (.int .i32 0), 1, 4) := by kernel_rfl

/-- A slice of bools that is read. -/
structure RdB (w : World) (a : Option Addr) (b off len : Nat) (g : Nat → Bool) : Prop where
  adr : 0 < len → a = some ⟨b, off, none⟩
  cell : ∀ i, i < len → w.cell? ⟨b, off + i, none⟩ = some (.bool (g i))

theorem RdB.fr {w w' : World} {a : Option Addr} {b off len : Nat} {g : Nat → Bool} {S : List Nat} (h : RdB w a b off len g) (hf : Fr S w w') (hn : 0 < len → b ∉ S) : RdB w' a b off len g :=
  ⟨h.adr, fun i hi => hf.cell (h.cell i hi) (hn (by omega))⟩

/-- The stack's cells, its bottom first. -/
def stkV : List (Nat × BT Unit) → List Value
  | [] => []
  | (k, _) :: sp => stkV sp ++ [.int .i32 k]

theorem stkV_len (sp : List (Nat × BT Unit)) : (stkV sp).length = sp.length := by
  induction sp with
  | nil => rfl
  | cons p sp ih => obtain ⟨k, r⟩ := p; simp [stkV, ih]

def sliceLen : Value → Nat
  | .slice _ n _ => n
  | _ => 0

theorem cell_one_at (w : World) (v : Value) (t : TypeId) {B : Nat} (hB : w.heap.size = B) : ∀ j u, [v][j]? = some u → (w.alloc (.cells #[v] t)).cell? ((⟨B, 0, none⟩ : Addr).add j) = some u := by
  subst hB
  exact cell_one_new w v t

theorem own_grow {w w' : World} {base e size B n cap : Nat} {xs : List Value} (h : w.ownsRow base e size (.slice (some ⟨B, 0, none⟩) n cap) n xs) (hf : Fr [] w w') : w'.ownsRow base e size (.slice (some ⟨B, 0, none⟩) n cap) n xs :=
  h.kept (row := none) ⟨hf.os, hf.tape, hf.output, hf.size, fun k hk _ => hf.block k hk (by simp)⟩ (.inr (by simp [Value.ownBlock]))

set_option maxRecDepth 100000 in
set_option maxHeartbeats 2000000 in
theorem check25 (s : Sh) (M : Mem) (t0 : BT Unit) (root : Int) (aw : Option Addr) (bw ow cw : Nat) (want : Nat → Bool) (a0 : Option Addr) (b0 o0 c0 : Nat) (a1 : Option Addr) (b1 o1 c1 : Nat) (a2 : Option Addr) (b2 o2 c2 : Nat) (w : World)
    (h : TreeAt s w M) (hin : In s.tx M t0 root) (hs : Srt s.fi (keys t0)) (hh : Heap s.pr t0) (hb : ∀ j ∈ keys t0, j < s.n) (hn0 : 0 < s.n) (hwant : ∀ i, i < s.n → (want i = true ↔ i ∈ keys t0))
    (rw_ : RdB w aw bw ow s.n want) (r0 : RdI .i64 w a0 b0 o0 s.n s.fi) (r1 : RdI .i64 w a1 b1 o1 s.n s.tx) (r2 : RdI .u64 w a2 b2 o2 s.n s.pr) :
    Calls Try.prog 25 #[.pointer (some ⟨s.bt, 0, none⟩), .int .i32 root, .slice aw s.n cw, .slice a0 s.n c0, .slice a1 s.n c1, .slice a2 s.n c2] w fun e w' => e = .returned (.bool true) ∧ Fr [] w w' := by
  have hn := h.hn
  have hnd := hs.nodup
  have hmk := run_make_row' (P := Try.prog) 42 4 (.bool false) 1 Try.underlying42 info4 rfl .i64 .i64 s.n (by omega) (by omega)
  obtain ⟨i1, hi, hz0, hz1, hz2⟩ := info_parts info21
  obtain rfl := rw_.adr hn0
  obtain rfl := r0.adr hn0
  obtain rfl := r1.adr hn0
  obtain rfl := r2.adr hn0
  go_enter Try.func25, Try.ntmps25
  go_wp2_with (at_make; refine wpList_make_own _ rfl _ _ 54 rfl (w.heap.size + 1) 21 i1 (.int .i32 0) 1 Try.underlying54 hi hz0 hz1 _ _ _ s.n rfl rfl (by omega) (by rw [hz2]; omega) (by unfold maxLen; omega) (by simp) ?_; intro w1 own1 grow1)
  have hsz : (w.alloc (Obj.cells (madeCells #[Value.bool false] s.n) 4)).heap.size = w.heap.size + 1 := by simp
  rw [hsz] at own1
  have F1 : Fr [] w w1 := ((Fr.refl [] w).alloc _).grown grow1 (fun j hj => by cases hj)
  have V1 : w1.rowIs w.heap.size 4 s.n (fun i => .bool ((fun _ => false) i)) := (World.rowIs_made w (.bool false) s.n 4).of_block (grow1.block _ (by simp) (by simp))
  clear grow1 hmk
  go_loopw [15, 16, 17, 18] (fun st cur cnt prev wr => ∃ (done : List Nat) (tc : BT Unit) (sp : List (Nat × BT Unit)) (V : Nat → Bool) (pv c : Int), cur = .int .i32 c ∧ st = .slice (some ⟨w.heap.size + 1, 0, none⟩) sp.length s.n ∧ cnt = .int .i64 (done.length : Int) ∧ prev = .int .i64 pv ∧
      Trav s.tx s.fi M t0 done tc c sp V pv ∧ wr.rowIs w.heap.size 4 s.n (fun i => .bool (V i)) ∧ wr.ownsRow (w.heap.size + 1) 21 1 (.slice (some ⟨w.heap.size + 1, 0, none⟩) sp.length s.n) sp.length (stkV sp) ∧ Fr [] w wr)
    (fun _ _ cnt _ _ => s.n - (intOf cnt).toNat)
  case atStart => exact ⟨[], t0, [], _, 0, root, rfl, rfl, rfl, rfl, trav_start hin, V1, own1, F1⟩
  case round =>
    clear own1 V1 F1 hsz
    obtain ⟨done, tc, sp, V, pv, c, rfl, rfl, rfl, rfl, htr, hV, hown, hF⟩ := hrel
    have hlen := trav_len htr hnd hb
    by_cases hex : ¬ 0 ≤ c ∧ ¬ 0 < sp.length
    · obtain ⟨e1, e2⟩ := hex
      obtain rfl : tc = .nil := by
        cases tc with
        | nil => rfl
        | node k o u l r => have := htr.at_.1; omega
      obtain rfl : sp = [] := List.eq_nil_of_length_eq_zero (by omega)
      have hend := trav_end htr
      have hvw : ∀ i, i < s.n → V i = want i := by
        intro i hi
        rw [Bool.eq_iff_iff, hend i, hwant i hi]
      have HVW : Hid (∀ i, i < s.n → V i = want i) := hvw
      clear hvw hend htr hwant hown
      go_wp2_with fail
      go_loopw [28] (fun i wx => ∃ k : Nat, k ≤ s.n ∧ i = .int .i64 k ∧ wx.rowIs w.heap.size 4 s.n (fun i => .bool (V i)) ∧ Fr [] w wx) (fun i _ => s.n - (intOf i).toNat)
      case atStart => exact ⟨0, Nat.zero_le _, rfl, hV, hF⟩
      case round =>
        clear hV hF
        obtain ⟨k, hk, rfl, hV, hF⟩ := hrel
        by_cases hlt : k < s.n
        · have k1 : wr.cell? ⟨w.heap.size, k, none⟩ = some (.bool (V k)) := hV.cell hlt
          have k2 : wr.cell? ⟨bw, ow + k, none⟩ = some (.bool (V k)) := by rw [HVW.out k hlt]; exact hF.cell (rw_.cell k hlt) (by simp)
          have ki : (k : Int) < (s.n : Int) := by omega
          go_wp2_with fail
          go_quiet (fail)
          go_wp2_with fail
          go_roundw
          case rel => exact ⟨k + 1, by omega, by go_num, hV.of_block rfl, hF.drewN _⟩
          case measure => simp [intOf]; omega
        · cases t0 with
          | nil =>
            obtain rfl : root = -1 := hin
            go_wp2_with fail
            go_ret
            exact ⟨rfl, hF⟩
          | node k0 oo uu ll rr =>
            obtain rfl : root = (k0 : Int) := hin.1
            go_wp2_with fail
            refine Calls.mono (submax39 s M _ b1 o1 c1 (.node k0 oo uu ll rr) k0 _ (by simp) (h.fr0 hF) hin hb (r1.fr hF (by simp))) ?_
            rintro e w2 ⟨rfl, F2⟩
            go_wp2_with fail
            go_ret
            exact ⟨rfl, hF.trans F2⟩
    · have hent : 0 ≤ c ∨ (¬ 0 ≤ c ∧ 0 < sp.length) := by omega
      clear hex
      rcases hent with he | ⟨he, hsp⟩
      all_goals
        go_wp2_with fail
        go_loopw [15, 16] (fun st cur wx => ∃ (tc : BT Unit) (sp : List (Nat × BT Unit)) (V : Nat → Bool) (c : Int), cur = .int .i32 c ∧ st = .slice (some ⟨w.heap.size + 1, 0, none⟩) sp.length s.n ∧ (0 ≤ c ∨ 0 < sp.length) ∧
            Trav s.tx s.fi M t0 done tc c sp V pv ∧ wx.rowIs w.heap.size 4 s.n (fun i => .bool (V i)) ∧ wx.ownsRow (w.heap.size + 1) 21 1 (.slice (some ⟨w.heap.size + 1, 0, none⟩) sp.length s.n) sp.length (stkV sp) ∧ Fr [] w wx)
          (fun st _ _ => s.n - sliceLen st)
        case atStart => exact ⟨tc, sp, V, c, rfl, rfl, by omega, htr, hV, hown, hF⟩
        case round =>
          clear htr hV hown hF hlen he
          obtain ⟨tc, sp, V, c, rfl, rfl, hne, htr, hV, hown, hF⟩ := hrel
          have hlen := trav_len htr hnd hb
          cases tc with
          | node k o u l r =>
            obtain rfl : c = (k : Int) := htr.at_.1
            have hfresh := trav_fresh htr hnd
            have hk : k < s.n := hb k hfresh.2
            have hdown := trav_down htr
            have hV' := hV.set k (.bool true)
            have v1 : wr.cell? ⟨w.heap.size, k, none⟩ = some (.bool false) := by rw [hV.cell hk, hfresh.1]
            have v2 : wr.frozen? ⟨w.heap.size, k, none⟩ = false := hV.frozen k
            have own' := ownsRow_setCell_below (a := ⟨w.heap.size, k, none⟩) hown (by simp) (.bool true)
            have hks : (k : Int) < (s.n : Int) := by omega
            simp only [keys, List.length_append, List.length_cons] at hlen
            clear hV hown htr hfresh
            go_wp2_with (at_builtin; refine wpList_append_fits _ rfl _ _ 54 rfl (w.heap.size + 1) 21 i1 1 Try.underlying54 hi hz1 (w.heap.size + 1) sp.length s.n _ rfl (own'.alloc _) ⟨wr.heap.size, 0, none⟩ 1 1 [.int .i32 k] rfl rfl (cell_one_at _ _ _ (by simp [World.setCell])) (ints_oneCell .i32 [(k : Int)]) (by omega) ?_; intro w2 own2 grow2)
            have hlt0 := hV'.lt
            have F2 : Fr [] w w2 := ((hF.setCell (p := ⟨w.heap.size, k, none⟩) (.inr (Nat.le_refl _)) _).alloc _).grown grow2 (fun j hj hl => by cases hj; omega)
            have V2 : w2.rowIs w.heap.size 4 s.n (fun i => .bool ((fun j => if j = k then true else V j) i)) := by
              refine (((hV'.alloc _).of_block (grow2.block _ (hV'.alloc _).lt (by simp))).congr (fun i hi => ?_))
              by_cases e : i = k <;> simp [e]
            clear own' hV' grow2 v1 v2 hlt0
            have Z2 : Hid _ := znode29 s M k w2 (h.fr0 F2) hk
            go_wp2_with fail
            refine Calls.mono Z2.out ?_
            rintro e w3 ⟨rfl, F3⟩
            clear Z2
            go_wp2_with fail
            go_roundw
            case rel => exact ⟨l, (k, r) :: sp, _, M.L k, rfl, rfl, by simp, hdown, (F3.alloc _).row V2 (by simp), own_grow own2 (F3.alloc _), F2.trans (F3.alloc _)⟩
            case measure => simp [sliceLen]; omega
          | nil =>
            obtain rfl : c = -1 := htr.at_
            cases sp with
            | nil => simp at hne
            | cons p sp =>
              obtain ⟨k, r⟩ := p
              have htop := trav_top htr hs
              have hk : k < s.n := hb k htop.1
              have hpop := trav_pop htr
              have hkid := kids t0 root hin hh hb k htop.1
              have q1 : wr.cell? ⟨w.heap.size + 1, sp.length, none⟩ = some (.int .i32 k) := by
                have := hown.cells (g := w.heap.size + 1) rfl sp.length (.int .i32 k) (by rw [stkV, List.getElem?_append_right (by rw [stkV_len]; omega)]; simp [stkV_len])
                rwa [Addr.add_lit, Nat.zero_add] at this
              have own2 := ownsRow_pop (by rw [stkV_len, Nat.mul_one]) hown
              have Z2 : Hid _ := znode29 s M k wr (h.fr0 hF) hk
              simp only [List.length_cons] at hlen ⊢
              clear hown htr
              go_wp2_with fail
              refine Calls.mono Z2.out ?_
              rintro e w3 ⟨rfl, F3⟩
              clear Z2
              have G3 := hF.trans F3
              have f0 : w3.cell? ⟨b0, o0 + k, none⟩ = some (.int .i64 (s.fi k)) := G3.cell (r0.cell k hk) (by simp)
              have f1 : w3.cell? ⟨b1, o1 + k, none⟩ = some (.int .i64 (s.tx k)) := G3.cell (r1.cell k hk) (by simp)
              have f2 : w3.cell? ⟨b2, o2 + k, none⟩ = some (.int .u64 (s.pr k)) := G3.cell (r2.cell k hk) (by simp)
              have g0 : b0 < w3.heap.size := lt_of_cell f0
              have g1 : b1 < w3.heap.size := lt_of_cell f1
              have g2 : b2 < w3.heap.size := lt_of_cell f2
              have hki : (k : Int) < (s.n : Int) := by omega
              obtain ⟨x1, x2, x3⟩ := hkid.1.int
              obtain ⟨y1, y2, y3⟩ := hkid.2.int
              have f3 : 0 ≤ M.L k → w3.cell? ⟨b2, o2 + (M.L k).toNat, none⟩ = some (.int .u64 (s.pr (M.L k).toNat)) := fun hx => G3.cell (r2.cell _ (by omega)) (by simp)
              have f4 : 0 ≤ M.R k → w3.cell? ⟨b2, o2 + (M.R k).toNat, none⟩ = some (.int .u64 (s.pr (M.R k).toNat)) := fun hx => G3.cell (r2.cell _ (by omega)) (by simp)
              have V3 := F3.row hV (by simp)
              have own3 := own_grow own2 F3
              have HD : 0 < done.length → pv < s.fi k := htop.2
              clear hkid hV own2 q1 htop
              go_wp2_with fail
              go_quiet (fail)
              go_wp2_with fail
              all_goals
                go_roundw
                case rel => exact ⟨done ++ [k], r, sp, V, s.fi k, M.R k, rfl, rfl, by simp, rfl, hpop, (((Fr.refl [] w3).alloc _).drewN _).row V3 (by simp), own_grow own3 (((Fr.refl [] w3).alloc _).drewN _), G3.trans (((Fr.refl [] w3).alloc _).drewN _)⟩
                case measure => simp [intOf]; omega

end Go.Proofs.Qxb6613402a
