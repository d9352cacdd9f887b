/-
  OWN WORK ON THIS SEAT. A source tree in memory.
-/
import Derived.Test.Qxb6613402aFacts
import Derived.Test.Qxb6613402aTree2
namespace Go.Proofs.Qxb6613402a
open Go.RowKit

/-- Where a tree's parts lie, and what in it never turns: n nodes; first write, transaction, priority of each. -/
structure Sh where
  bt : Nat
  bk : Nat
  bn : Nat
  bo : Nat
  bp : Nat
  n : Nat
  cn : Nat
  co : Nat
  cp : Nat
  fi : Nat → Int
  tx : Nat → Int
  pr : Nat → Int

/-- The header's eight cells. -/
def hdr (s : Sh) : Nat → Value
  | 0 => .slice (some ⟨s.bk, 0, none⟩) 1 1
  | 1 => .slice (some ⟨s.bn, 0, none⟩) s.n s.cn
  | 2 => .slice (some ⟨s.bo, 0, none⟩) s.n s.co
  | 3 => .slice (some ⟨s.bp, 0, none⟩) s.n s.cp
  | 4 => .slice none 0 0
  | 5 => .int .i32 (-1)
  | _ => .int .u64 0

/-- A node's seven cells. -/
def nodeC (s : Sh) (M : Mem) (i : Nat) : Nat → Value
  | 0 => .int .i64 (s.tx i)
  | 1 => .int .i64 (s.fi i)
  | 2 => .int .i64 (s.fi i)
  | 3 => .int .i64 0
  | 4 => .int .u64 (s.pr i)
  | 5 => .int .i32 (M.L i)
  | _ => .int .i32 (M.R i)

structure TreeAt (s : Sh) (w : World) (M : Mem) : Prop where
  head : w.rowIs s.bt 71 8 (hdr s)
  nodes : ∃ f, w.rowIs s.bn 65 (s.cn * 7) f ∧ ∀ i j, i < s.n → j < 7 → f (i * 7 + j) = nodeC s M i j
  own : ∃ f, w.rowIs s.bo 3 s.co f ∧ ∀ i, i < s.n → f i = .int .i64 (s.tx i)
  top : ∃ f, w.rowIs s.bp 3 s.cp f ∧ ∀ i, i < s.n → f i = .int .i64 (M.T i)
  hcn : s.n ≤ s.cn
  hco : s.n ≤ s.co
  hcp : s.n ≤ s.cp
  hn : s.n ≤ 4096
  tn : s.bt ≠ s.bn
  to : s.bt ≠ s.bo
  tp : s.bt ≠ s.bp
  no : s.bn ≠ s.bo
  np : s.bn ≠ s.bp
  op : s.bo ≠ s.bp

namespace TreeAt
variable {s : Sh} {w w' : World} {M : Mem}

theorem fr (h : TreeAt s w M) {S : List Nat} (hf : Fr S w w') (h1 : s.bt ∉ S) (h2 : s.bn ∉ S) (h3 : s.bo ∉ S) (h4 : s.bp ∉ S) : TreeAt s w' M := by
  obtain ⟨f1, r1, e1⟩ := h.nodes
  obtain ⟨f2, r2, e2⟩ := h.own
  obtain ⟨f3, r3, e3⟩ := h.top
  exact ⟨hf.row h.head h1, ⟨f1, hf.row r1 h2, e1⟩, ⟨f2, hf.row r2 h3, e2⟩, ⟨f3, hf.row r3 h4, e3⟩, h.hcn, h.hco, h.hcp, h.hn, h.tn, h.to, h.tp, h.no, h.np, h.op⟩

theorem cellN (h : TreeAt s w M) {i j : Nat} (hi : i < s.n) (hj : j < 7) : w.cell? ⟨s.bn, i * 7 + j, none⟩ = some (nodeC s M i j) := by
  obtain ⟨f1, r1, e1⟩ := h.nodes
  have := h.hcn
  rw [r1.cell (by omega), e1 i j hi hj]
theorem frozenN (h : TreeAt s w M) (i : Nat) : w.frozen? ⟨s.bn, i, none⟩ = false := by
  obtain ⟨f1, r1, e1⟩ := h.nodes
  exact r1.frozen i
theorem cellO (h : TreeAt s w M) {i : Nat} (hi : i < s.n) : w.cell? ⟨s.bo, i, none⟩ = some (.int .i64 (s.tx i)) := by
  obtain ⟨f1, r1, e1⟩ := h.own
  have := h.hco
  rw [r1.cell (by omega), e1 i hi]
theorem cellT (h : TreeAt s w M) {i : Nat} (hi : i < s.n) : w.cell? ⟨s.bp, i, none⟩ = some (.int .i64 (M.T i)) := by
  obtain ⟨f1, r1, e1⟩ := h.top
  have := h.hcp
  rw [r1.cell (by omega), e1 i hi]
theorem frozenT (h : TreeAt s w M) (i : Nat) : w.frozen? ⟨s.bp, i, none⟩ = false := by
  obtain ⟨f1, r1, e1⟩ := h.top
  exact r1.frozen i

theorem drewN (h : TreeAt s w M) (k : Nat) : TreeAt s (w.drewN k) M := h.fr (S := []) ((Fr.refl _ _).drewN k) (by simp) (by simp) (by simp) (by simp)
theorem drew (h : TreeAt s w M) : TreeAt s w.drew M := h.fr (S := []) (Fr.refl _ _).drew (by simp) (by simp) (by simp) (by simp)

theorem setL (h : TreeAt s w M) {k : Nat} (hk : k < s.n) (v : Int) : TreeAt s (w.setCell ⟨s.bn, k * 7 + 5, none⟩ (.int .i32 v)) (M.setL k v) := by
  obtain ⟨f1, r1, e1⟩ := h.nodes
  obtain ⟨f2, r2, e2⟩ := h.own
  obtain ⟨f3, r3, e3⟩ := h.top
  refine ⟨h.head.setOther h.tn _, ⟨_, r1.set _ _, fun i j hi hj => ?_⟩, ⟨f2, r2.setOther h.no.symm _, e2⟩, ⟨f3, r3.setOther h.np.symm _, e3⟩, h.hcn, h.hco, h.hcp, h.hn, h.tn, h.to, h.tp, h.no, h.np, h.op⟩
  by_cases e : i * 7 + j = k * 7 + 5
  · obtain ⟨rfl, rfl⟩ : i = k ∧ j = 5 := by omega
    simp [nodeC, Mem.setL, upd]
  · rw [if_neg e, e1 i j hi hj]
    by_cases ek : i = k
    · subst ek
      match j, hj with
      | 0, _ => rfl
      | 1, _ => rfl
      | 2, _ => rfl
      | 3, _ => rfl
      | 4, _ => rfl
      | 5, _ => omega
      | 6, _ => rfl
    · match j, hj with
      | 0, _ => rfl
      | 1, _ => rfl
      | 2, _ => rfl
      | 3, _ => rfl
      | 4, _ => rfl
      | 5, _ => simp [nodeC, Mem.setL, upd, ek]
      | 6, _ => rfl

theorem setR (h : TreeAt s w M) {k : Nat} (hk : k < s.n) (v : Int) : TreeAt s (w.setCell ⟨s.bn, k * 7 + 6, none⟩ (.int .i32 v)) (M.setR k v) := by
  obtain ⟨f1, r1, e1⟩ := h.nodes
  obtain ⟨f2, r2, e2⟩ := h.own
  obtain ⟨f3, r3, e3⟩ := h.top
  refine ⟨h.head.setOther h.tn _, ⟨_, r1.set _ _, fun i j hi hj => ?_⟩, ⟨f2, r2.setOther h.no.symm _, e2⟩, ⟨f3, r3.setOther h.np.symm _, e3⟩, h.hcn, h.hco, h.hcp, h.hn, h.tn, h.to, h.tp, h.no, h.np, h.op⟩
  by_cases e : i * 7 + j = k * 7 + 6
  · obtain ⟨rfl, rfl⟩ : i = k ∧ j = 6 := by omega
    simp [nodeC, Mem.setR, upd]
  · rw [if_neg e, e1 i j hi hj]
    by_cases ek : i = k
    · subst ek
      match j, hj with
      | 0, _ => rfl
      | 1, _ => rfl
      | 2, _ => rfl
      | 3, _ => rfl
      | 4, _ => rfl
      | 5, _ => rfl
      | 6, _ => omega
    · match j, hj with
      | 0, _ => rfl
      | 1, _ => rfl
      | 2, _ => rfl
      | 3, _ => rfl
      | 4, _ => rfl
      | 5, _ => rfl
      | 6, _ => simp [nodeC, Mem.setR, upd, ek]

theorem setT (h : TreeAt s w M) {k : Nat} (v : Int) : TreeAt s (w.setCell ⟨s.bp, k, none⟩ (.int .i64 v)) (M.setT k v) := by
  obtain ⟨f1, r1, e1⟩ := h.nodes
  obtain ⟨f2, r2, e2⟩ := h.own
  obtain ⟨f3, r3, e3⟩ := h.top
  refine ⟨h.head.setOther h.tp _, ⟨f1, r1.setOther h.np _, e1⟩, ⟨f2, r2.setOther h.op _, e2⟩, ⟨_, r3.set _ _, fun i hi => ?_⟩, h.hcn, h.hco, h.hcp, h.hn, h.tn, h.to, h.tp, h.no, h.np, h.op⟩
  by_cases e : i = k
  · subst e
    simp [Mem.setT, upd]
  · rw [if_neg e, e3 i hi]
    simp [Mem.setT, upd, e]

end TreeAt

/-- The tree's own blocks. -/
def Sh.bs (s : Sh) : List Nat := [s.bn, s.bp]

/-- A child's number: none, or a node. -/
def Chi (n : Nat) (v : Int) : Prop := v = -1 ∨ ∃ j : Nat, j < n ∧ v = (j : Int)

end Go.Proofs.Qxb6613402a
