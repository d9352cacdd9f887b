import Derived.Test.Qxb6613402aW10
namespace Go.Proofs.Qxb6613402a
open Go.RowKit
open Go.Deep (BT)

theorem BuildG.drew {fi tx pr : Nat → Int} {bt bk : Nat} {w : World} {kN kO kT : Nat} {vN vO vT : Value} (h : BuildG fi tx pr bt bk w kN kO kT vN vO vT) : BuildG fi tx pr bt bk w.drew kN kO kT vN vO vT :=
  ⟨h.head, h.nodes, h.own, h.top, h.hno, h.hnt, h.hot⟩

theorem Fr.thenBelow {S : List Nat} {a b c : World} {B : Nat} (h : Fr S a b) (k : Below B b c) (hB : a.heap.size ≤ B) : Fr S a c :=
  ⟨k.os.trans h.os, k.tape.trans h.tape, k.output.trans h.output, Nat.le_trans h.size k.size, fun i hi hn => (k.block i (by omega)).trans (h.block i hi hn)⟩

theorem new36 (fi tx pr : Nat → Int) (w : World) :
    Calls Try.prog 36 #[] w fun e w' => e = .returned (.pointer (some ⟨w.heap.size + 1, 0, none⟩)) ∧ BuildG fi tx pr (w.heap.size + 1) w.heap.size w' 0 0 0 (.slice none 0 0) (.slice none 0 0) (.slice none 0 0) ∧ Fr [] w w' := by
  go_enter Try.func36, Try.ntmps36
  go_wp2_with fail
  go_ret
  refine ⟨rfl, ⟨?_, World.ownsRow_nil _ _ _ _, World.ownsRow_nil _ _ _ _, World.ownsRow_nil _ _ _ _, by simp [Value.ownBlock], by simp [Value.ownBlock], by simp [Value.ownBlock]⟩, ((Fr.refl _ _).alloc _).alloc _⟩
  refine ⟨_, new2 w _ _, rfl, fun i hi => ?_⟩
  match i, hi with
  | 0, _ => rfl
  | 1, _ => rfl
  | 2, _ => rfl
  | 3, _ => rfl
  | 4, _ => rfl
  | 5, _ => rfl
  | 6, _ => rfl
  | 7, _ => rfl

set_option maxHeartbeats 400000 in
theorem build23 (a0 : Option Addr) (b0 o0 n c0 : Nat) (fi : Nat → Int) (a1 : Option Addr) (b1 o1 c1 : Nat) (tx : Nat → Int) (a2 : Option Addr) (b2 o2 c2 : Nat) (pr : Nat → Int) (w : World)
    (hn : n ≤ 4096) (r0 : RdI .i64 w a0 b0 o0 n fi) (r1 : RdI .i64 w a1 b1 o1 n tx) (r2 : RdI .u64 w a2 b2 o2 n pr) :
    Calls Try.prog 23 #[.slice a0 n c0, .slice a1 n c1, .slice a2 n c2] w fun e w' =>
      ∃ vN vO vT, e = .returned (.pointer (some ⟨w.heap.size + 1, 0, none⟩)) ∧ BuildG fi tx pr (w.heap.size + 1) w.heap.size w' n n n vN vO vT ∧ Fr [] w w' := by
  go_enter Try.func23, Try.ntmps23
  go_wp2_with fail
  refine Calls.mono (new36 fi tx pr w) ?_
  rintro e w1 ⟨rfl, h0, F0⟩
  have s0 := h0.head.lt
  go_wp2_with fail
  go_loopw [12] (fun i wr => ∃ (k : Nat) (vN vO vT : Value), k ≤ n ∧ i = .int .i64 k ∧ BuildG fi tx pr (w.heap.size + 1) w.heap.size wr k k k vN vO vT ∧ Below (w.heap.size + 1) w1 wr) (fun i _ => n - (intOf i).toNat)
  case atStart => exact ⟨0, _, _, _, Nat.zero_le _, rfl, h0, Below.refl _ _⟩
  case round =>
    clear h0
    obtain ⟨k, vN, vO, vT, hk, rfl, h, hB⟩ := hrel
    by_cases hlt : k < n
    · obtain rfl := r0.adr (by omega)
      obtain rfl := r1.adr (by omega)
      obtain rfl := r2.adr (by omega)
      have l0 := r0.lt (by omega)
      have l1 := r1.lt (by omega)
      have l2 := r2.lt (by omega)
      have k0 : wr.cell? ⟨b0, o0 + k, none⟩ = some (.int .i64 (fi k)) := (hB.cell (by simp; omega)).trans (F0.cell (r0.cell k hlt) (by simp))
      have k1 : wr.cell? ⟨b1, o1 + k, none⟩ = some (.int .i64 (tx k)) := (hB.cell (by simp; omega)).trans (F0.cell (r1.cell k hlt) (by simp))
      have k2 : wr.cell? ⟨b2, o2 + k, none⟩ = some (.int .u64 (pr k)) := (hB.cell (by simp; omega)).trans (F0.cell (r2.cell k hlt) (by simp))
      have ki : (k : Int) < (n : Int) := by omega
      go_wp2_with fail
      go_region_held (fun w' => w'.cell? ⟨b0, o0 + k, none⟩ = some (.int .i64 (fi k)) ∧ w'.cell? ⟨b1, o1 + k, none⟩ = some (.int .i64 (tx k)) ∧ w'.cell? ⟨b2, o2 + k, none⟩ = some (.int .u64 (pr k))) (go_keep)
        ((go_at_call 37; refine Calls.mono (add37 fi tx pr (w.heap.size + 1) w.heap.size _ k vN vO vT h.drew (by omega)) ?_; rintro e w2 ⟨vN', vO', vT', rfl, h2, hB2⟩; have q0 : w2.cell? ⟨b0, o0 + k, none⟩ = some (.int .i64 (fi k)) := (hB2.cell (by simp; omega)).trans k0; have q1 : w2.cell? ⟨b1, o1 + k, none⟩ = some (.int .i64 (tx k)) := (hB2.cell (by simp; omega)).trans k1; have q2 : w2.cell? ⟨b2, o2 + k, none⟩ = some (.int .u64 (pr k)) := (hB2.cell (by simp; omega)).trans k2))
      clear k0 k1 k2 q0 q1 q2 h
      go_wp2_with fail
      go_roundw
      case rel => exact ⟨k + 1, _, _, _, by omega, by go_num, h2, hB.drew.trans hB2⟩
      case measure => simp [intOf]; omega
    · obtain rfl : n = k := by omega
      go_wp2_with fail
      go_ret
      exact ⟨vN, vO, vT, rfl, h, F0.thenBelow hB (by omega)⟩

/-! ### from what was built to the tree -/
theorem nodeVals_len (fi tx pr : Nat → Int) (n : Nat) : (nodeVals fi tx pr n).length = n * 7 := by
  induction n with
  | zero => rfl
  | succ n ih => rw [nodeVals, List.length_append, ih]; simp [node7]; omega

theorem nodeVals_get (fi tx pr : Nat → Int) : ∀ (n i j : Nat), i < n → j < 7 → (nodeVals fi tx pr n)[i * 7 + j]? = (node7 fi tx pr i)[j]?
  | 0, _, _, h, _ => by omega
  | n + 1, i, j, hi, hj => by
    rw [nodeVals, List.getElem?_append, nodeVals_len]
    by_cases h : i < n
    · rw [if_pos (by omega)]
      exact nodeVals_get fi tx pr n i j h hj
    · obtain rfl : i = n := by omega
      rw [if_neg (by omega)]
      congr 1
      omega

theorem ownVals_len (tx : Nat → Int) (n : Nat) : (ownVals tx n).length = n := by
  induction n with
  | zero => rfl
  | succ n ih => rw [ownVals, List.length_append, ih]; rfl

theorem ownVals_get (tx : Nat → Int) : ∀ (n i : Nat), i < n → (ownVals tx n)[i]? = some (.int .i64 (tx i))
  | 0, _, h => by omega
  | n + 1, i, hi => by
    rw [ownVals, List.getElem?_append, ownVals_len]
    by_cases h : i < n
    · rw [if_pos h]; exact ownVals_get tx n i h
    · obtain rfl : i = n := by omega
      simp

/-- An owned row, its content by the index. -/
theorem row_of_own {w : World} {base n size : Nat} {e : TypeId} {v : Value} {xs : List Value} (h : w.ownsRow base e size v n xs) (hn : 0 < n) :
    ∃ g cap f, v = .slice (some ⟨g, 0, none⟩) n cap ∧ base ≤ g ∧ n ≤ cap ∧ w.rowIs g e (cap * size) f ∧ ∀ i u, xs[i]? = some u → f i = u := by
  rcases h.2 with ⟨_, h0⟩ | ⟨g, cap, cur, hv, hb, hg, hc, _, hs, ht⟩
  · omega
  · refine ⟨g, cap, fun i => (cur[i]?).getD undef, hv, hb, hc, ⟨cur, hg, hs, fun i hi => ?_⟩, fun i u hu => ?_⟩
    · have hi' : i < cur.size := by omega
      simp [hi']
    · rw [← ht, List.getElem?_take] at hu
      split at hu
      · have : cur[i]? = some u := by simpa using hu
        simp [this]
      · cases hu

/-- Every node alone. -/
def M0 (tx : Nat → Int) : Mem := ⟨fun _ => -1, fun _ => -1, tx⟩

theorem tree_of_build {fi tx pr : Nat → Int} {bt bk n : Nat} {w : World} {vN vO vT : Value} (h : BuildG fi tx pr bt bk w n n n vN vO vT) (hn0 : 0 < n) (hn : n ≤ 4096) :
    ∃ s : Sh, s.bt = bt ∧ s.n = n ∧ s.fi = fi ∧ s.tx = tx ∧ s.pr = pr ∧ bt < s.bn ∧ bt < s.bo ∧ bt < s.bp ∧ TreeAt s w (M0 tx) := by
  obtain ⟨gN, cN, fN, rfl, bN, lN, rN, eN⟩ := row_of_own h.nodes hn0
  obtain ⟨gO, cO, fO, rfl, bO, lO, rO, eO⟩ := row_of_own h.own hn0
  obtain ⟨gT, cT, fT, rfl, bT, lT, rT, eT⟩ := row_of_own h.top hn0
  refine ⟨⟨bt, bk, gN, gO, gT, n, cN, cO, cT, fi, tx, pr⟩, rfl, rfl, rfl, rfl, rfl, bN, bO, bT, ?_⟩
  refine ⟨h.head.congr (fun i hi => ?_), ⟨fN, rN, fun i j hi hj => ?_⟩, ⟨fO, by simpa using rO, fun i hi => eO i _ (ownVals_get tx n i hi)⟩, ⟨fT, by simpa using rT, fun i hi => eT i _ (ownVals_get tx n i hi)⟩, lN, lO, lT, hn, ?_, ?_, ?_, ?_, ?_, ?_⟩
  · match i, hi with
    | 0, _ => rfl
    | 1, _ => rfl
    | 2, _ => rfl
    | 3, _ => rfl
    | 4, _ => rfl
    | 5, _ => rfl
    | 6, _ => rfl
    | 7, _ => rfl
  · refine eN _ _ ?_
    rw [nodeVals_get fi tx pr n i j hi hj]
    match j, hj with
    | 0, _ => rfl
    | 1, _ => rfl
    | 2, _ => rfl
    | 3, _ => rfl
    | 4, _ => rfl
    | 5, _ => rfl
    | 6, _ => rfl
  · show bt ≠ gN; omega
  · show bt ≠ gO; omega
  · show bt ≠ gT; omega
  · show gN ≠ gO; intro e; exact h.hno gN rfl (by rw [e]; rfl)
  · show gN ≠ gT; intro e; exact h.hnt gN rfl (by rw [e]; rfl)
  · show gO ≠ gT; intro e; exact h.hot gO rfl (by rw [e]; rfl)

end Go.Proofs.Qxb6613402a
