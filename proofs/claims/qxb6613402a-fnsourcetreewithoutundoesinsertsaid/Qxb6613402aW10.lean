import Derived.Test.Qxb6613402aTAt
import Derived.Deep.RegionHeldLaw
import Derived.Deep.RegionLaw
import Derived.Deep.AppendLies
import Derived.Deep.Cut
namespace Go.Proofs.Qxb6613402a
open Go.RowKit
open Go.Deep (BT)

theorem info65 : (Try.prog.info? 65).map (fun i => (i.zero, i.size, i.bytes)) = some (some (.agg #[.int .i64 0, .int .i64 0, .int .i64 0, .int .i64 0, .int .u64 0, .int .i32 0, .int .i32 0]), 7, 48) := by kernel_rfl

/-- The header while the tree is being built. -/
def hdrV (bk : Nat) (vN vO vT : Value) : Nat → Value
  | 0 => .slice (some ⟨bk, 0, none⟩) 1 1
  | 1 => vN
  | 2 => vO
  | 3 => vT
  | 4 => .slice none 0 0
  | 5 => .int .i32 (-1)
  | _ => .int .u64 0

def node7 (fi tx pr : Nat → Int) (i : Nat) : List Value := [.int .i64 (tx i), .int .i64 (fi i), .int .i64 (fi i), .int .i64 0, .int .u64 (pr i), .int .i32 (-1), .int .i32 (-1)]

def nodeVals (fi tx pr : Nat → Int) : Nat → List Value
  | 0 => []
  | k + 1 => nodeVals fi tx pr k ++ node7 fi tx pr k

def ownVals (tx : Nat → Int) : Nat → List Value
  | 0 => []
  | k + 1 => ownVals tx k ++ [.int .i64 (tx k)]

/-- A tree that is being built: so many nodes, own keys, tops so far. -/
structure BuildG (fi tx pr : Nat → Int) (bt bk : Nat) (w : World) (kN kO kT : Nat) (vN vO vT : Value) : Prop where
  head : w.rowIs bt 71 8 (hdrV bk vN vO vT)
  nodes : w.ownsRow (bt + 1) 65 7 vN kN (nodeVals fi tx pr kN)
  own : w.ownsRow (bt + 1) 3 1 vO kO (ownVals tx kO)
  top : w.ownsRow (bt + 1) 3 1 vT kT (ownVals tx kT)
  hno : ∀ b, vN.ownBlock = some b → vO.ownBlock ≠ some b
  hnt : ∀ b, vN.ownBlock = some b → vT.ownBlock ≠ some b
  hot : ∀ b, vO.ownBlock = some b → vT.ownBlock ≠ some b

theorem fr_grown {w W w1 : World} {row : Option Nat} (F : Fr [] w W) (hg : W.grownBy w1 row) : w.grownBy w1 row :=
  ⟨hg.os.trans F.os, hg.tape.trans F.tape, hg.output.trans F.output, Nat.le_trans F.size hg.size, fun k hk hne => (hg.block k (Nat.lt_of_lt_of_le hk F.size) hne).trans (F.block k hk (by simp))⟩

/-- Another row that is owned stays owned behind an append and a store into the header. -/
theorem own_on {w w1 : World} {bt : Nat} {e e' : TypeId} {size size' n n' : Nat} {v v' : Value} {xs xs' : List Value} (hv : w.ownsRow (bt + 1) e size v n xs) (_hv' : w.ownsRow (bt + 1) e' size' v' n' xs') (hne : ∀ b, v.ownBlock = some b → v'.ownBlock ≠ some b)
    (hg : w.grownBy w1 v'.ownBlock) (i : Nat) (u : Value) : (w1.setCell ⟨bt, i, none⟩ u).ownsRow (bt + 1) e size v n xs := by
  refine ownsRow_setCell_below (hv.kept hg ?_) (by simp) u
  cases hb : v.ownBlock with
  | none => exact .inl rfl
  | some b => exact .inr (fun e => hne b hb e.symm)

theorem head_on {w w1 : World} {bt : Nat} {t : TypeId} {m : Nat} {f : Nat → Value} {v : Value} {e : TypeId} {size n : Nat} {xs : List Value} (hr : w.rowIs bt t m f) (hown : w.ownsRow (bt + 1) e size v n xs) (hg : w.grownBy w1 v.ownBlock) : w1.rowIs bt t m f := by
  refine hr.of_block (hg.block bt hr.lt (fun e => ?_))
  have := (hown.lt bt e.symm).1
  omega

theorem far_new {w : World} {bt g H : Nat} {e : TypeId} {size n : Nat} {v v' : Value} {xs : List Value} (hv : w.ownsRow (bt + 1) e size v n xs) (hH : w.heap.size ≤ H) (hne : ∀ b, v.ownBlock = some b → v'.ownBlock ≠ some b) (hat : v'.ownBlock = some g ∨ g = H) : v.ownBlock ≠ some g := by
  intro hb
  rcases hat with hat | hat
  · exact hne g hb hat
  · have := (hv.lt g hb).2
    omega

theorem below_on {w w1 : World} {bt : Nat} {e : TypeId} {size n : Nat} {v : Value} {xs : List Value} (hlt : bt < w.heap.size) (hv : w.ownsRow (bt + 1) e size v n xs) (hg : w.grownBy w1 v.ownBlock) (i : Nat) (u : Value) : Below bt w (w1.setCell ⟨bt, i, none⟩ u) :=
  ((Below.refl bt w).grown hg (by omega) (fun b hb => by have := (hv.lt b hb).1; omega)).setCell (Nat.le_refl _) _

theorem stepN {fi tx pr : Nat → Int} {bt bk : Nat} {w W w1 : World} {kN kO kT g cap : Nat} {vN vO vT : Value} (h : BuildG fi tx pr bt bk w kN kO kT vN vO vT) (F : Fr [] w W)
    (hown : w1.ownsRow (bt + 1) 65 7 (.slice (some ⟨g, 0, none⟩) (kN + 1) cap) (kN + 1) (nodeVals fi tx pr kN ++ node7 fi tx pr kN)) (hg : W.grownBy w1 vN.ownBlock) (hat : vN.ownBlock = some g ∨ g = W.heap.size) :
    BuildG fi tx pr bt bk (w1.setCell ⟨bt, 1, none⟩ (.slice (some ⟨g, 0, none⟩) (kN + 1) cap)) (kN + 1) kO kT (.slice (some ⟨g, 0, none⟩) (kN + 1) cap) vO vT ∧ Below bt w (w1.setCell ⟨bt, 1, none⟩ (.slice (some ⟨g, 0, none⟩) (kN + 1) cap)) := by
  have hg' := fr_grown F hg
  have fO := far_new h.own F.size (fun b hb hb' => h.hno b hb' hb) hat
  have fT := far_new h.top F.size (fun b hb hb' => h.hnt b hb' hb) hat
  refine ⟨⟨((head_on h.head h.nodes hg').set 1 _).congr ?_, ownsRow_setCell_below hown (by simp) _, own_on h.own h.nodes (fun b hb hb' => h.hno b hb' hb) hg' _ _, own_on h.top h.nodes (fun b hb hb' => h.hnt b hb' hb) hg' _ _, ?_, ?_, h.hot⟩, below_on h.head.lt h.nodes hg' _ _⟩
  · intro i hi
    match i, hi with
    | 0, _ => rfl
    | 1, _ => rfl
    | 2, _ => rfl
    | 3, _ => rfl
    | 4, _ => rfl
    | 5, _ => rfl
    | 6, _ => rfl
    | 7, _ => rfl
  · intro b hb e; simp [Value.ownBlock] at hb; subst hb; exact fO e
  · intro b hb e; simp [Value.ownBlock] at hb; subst hb; exact fT e

theorem stepO {fi tx pr : Nat → Int} {bt bk : Nat} {w W w1 : World} {kN kO kT g cap : Nat} {vN vO vT : Value} (h : BuildG fi tx pr bt bk w kN kO kT vN vO vT) (F : Fr [] w W)
    (hown : w1.ownsRow (bt + 1) 3 1 (.slice (some ⟨g, 0, none⟩) (kO + 1) cap) (kO + 1) (ownVals tx kO ++ [.int .i64 (tx kO)])) (hg : W.grownBy w1 vO.ownBlock) (hat : vO.ownBlock = some g ∨ g = W.heap.size) :
    BuildG fi tx pr bt bk (w1.setCell ⟨bt, 2, none⟩ (.slice (some ⟨g, 0, none⟩) (kO + 1) cap)) kN (kO + 1) kT vN (.slice (some ⟨g, 0, none⟩) (kO + 1) cap) vT ∧ Below bt w (w1.setCell ⟨bt, 2, none⟩ (.slice (some ⟨g, 0, none⟩) (kO + 1) cap)) := by
  have hg' := fr_grown F hg
  have fN := far_new h.nodes F.size h.hno hat
  have fT := far_new h.top F.size (fun b hb hb' => h.hot b hb' hb) hat
  refine ⟨⟨((head_on h.head h.own hg').set 2 _).congr ?_, own_on h.nodes h.own h.hno hg' _ _, ownsRow_setCell_below hown (by simp) _, own_on h.top h.own (fun b hb hb' => h.hot b hb' hb) hg' _ _, ?_, h.hnt, ?_⟩, below_on h.head.lt h.own hg' _ _⟩
  · intro i hi
    match i, hi with
    | 0, _ => rfl
    | 1, _ => rfl
    | 2, _ => rfl
    | 3, _ => rfl
    | 4, _ => rfl
    | 5, _ => rfl
    | 6, _ => rfl
    | 7, _ => rfl
  · intro b hb e; simp [Value.ownBlock] at e; subst e; exact fN hb
  · intro b hb e; simp [Value.ownBlock] at hb; subst hb; exact fT e

theorem stepT {fi tx pr : Nat → Int} {bt bk : Nat} {w W w1 : World} {kN kO kT g cap : Nat} {vN vO vT : Value} (h : BuildG fi tx pr bt bk w kN kO kT vN vO vT) (F : Fr [] w W)
    (hown : w1.ownsRow (bt + 1) 3 1 (.slice (some ⟨g, 0, none⟩) (kT + 1) cap) (kT + 1) (ownVals tx kT ++ [.int .i64 (tx kT)])) (hg : W.grownBy w1 vT.ownBlock) (hat : vT.ownBlock = some g ∨ g = W.heap.size) :
    BuildG fi tx pr bt bk (w1.setCell ⟨bt, 3, none⟩ (.slice (some ⟨g, 0, none⟩) (kT + 1) cap)) kN kO (kT + 1) vN vO (.slice (some ⟨g, 0, none⟩) (kT + 1) cap) ∧ Below bt w (w1.setCell ⟨bt, 3, none⟩ (.slice (some ⟨g, 0, none⟩) (kT + 1) cap)) := by
  have hg' := fr_grown F hg
  have fN := far_new h.nodes F.size h.hnt hat
  have fO := far_new h.own F.size h.hot hat
  refine ⟨⟨((head_on h.head h.top hg').set 3 _).congr ?_, own_on h.nodes h.top h.hnt hg' _ _, own_on h.own h.top h.hot hg' _ _, ownsRow_setCell_below hown (by simp) _, h.hno, ?_, ?_⟩, below_on h.head.lt h.top hg' _ _⟩
  · intro i hi
    match i, hi with
    | 0, _ => rfl
    | 1, _ => rfl
    | 2, _ => rfl
    | 3, _ => rfl
    | 4, _ => rfl
    | 5, _ => rfl
    | 6, _ => rfl
    | 7, _ => rfl
  · intro b hb e; simp [Value.ownBlock] at e; subst e; exact fN hb
  · intro b hb e; simp [Value.ownBlock] at e; subst e; exact fO hb

theorem node7_one (fi tx pr : Nat → Int) (i : Nat) : ∀ u ∈ node7 fi tx pr i, u.oneCell' = true := by
  intro u hu
  simp only [node7, List.mem_cons, List.not_mem_nil, or_false] at hu
  rcases hu with rfl | rfl | rfl | rfl | rfl | rfl | rfl <;> rfl

theorem new2 (w : World) (o1 o2 : Obj) : ((w.alloc o1).alloc o2).heap[w.heap.size + 1]? = some o2 := by
  have := heap_alloc_new (w.alloc o1) o2
  simpa using this

theorem news7 (w : World) (o1 : Obj) (fi tx pr : Nat → Int) (k : Nat) : ∀ j u, (node7 fi tx pr k)[j]? = some u → (((w.alloc o1).alloc (.cells #[.int .i64 (tx k), .int .i64 (fi k), .int .i64 (fi k), .int .i64 0, .int .u64 (pr k), .int .i32 (-1), .int .i32 (-1)] 65)).drew).cell? ((⟨w.heap.size + 1, 0, none⟩ : Addr).add j) = some u :=
  World.news_of_block (w := ((w.alloc o1).alloc (.cells #[.int .i64 (tx k), .int .i64 (fi k), .int .i64 (fi k), .int .i64 0, .int .u64 (pr k), .int .i32 (-1), .int .i32 (-1)] 65)).drew) (new2 w o1 _)

theorem grown_far {w W w1 : World} {bt : Nat} {t : TypeId} {m : Nat} {f : Nat → Value} {v : Value} {e : TypeId} {size n : Nat} {xs : List Value} (hr : w.rowIs bt t m f) (F : Fr [] w W) (hown : w.ownsRow (bt + 1) e size v n xs) (hg : W.grownBy w1 v.ownBlock) : w1.rowIs bt t m f :=
  head_on hr hown (fr_grown F hg)

set_option maxHeartbeats 1000000 in
theorem add37 (fi tx pr : Nat → Int) (bt bk : Nat) (w : World) (k : Nat) (vN vO vT : Value) (h : BuildG fi tx pr bt bk w k k k vN vO vT) (hk : k ≤ 4096) :
    Calls Try.prog 37 #[.pointer (some ⟨bt, 0, none⟩), .agg #[.int .i64 (tx k), .int .i64 (fi k), .int .i64 (fi k), .int .i64 0], .int .u64 (pr k), .int .i64 (tx k)] w fun e w' =>
      ∃ vN' vO' vT', e = .returned (.tuple #[]) ∧ BuildG fi tx pr bt bk w' (k + 1) (k + 1) (k + 1) vN' vO' vT' ∧ Below bt w w' := by
  obtain ⟨i0, hi, hz0, hz1, hz2⟩ := info_parts info65
  obtain ⟨i3, hi3, hz30, hz31, hz32⟩ := info_parts info3
  have c1 : w.cell? ⟨bt, 1, none⟩ = some vN := h.head.cell (by omega)
  have hlt := h.head.lt
  have hsz : ∀ o1 o2, bt + 1 ≤ (((w.alloc o1).alloc o2).drew).heap.size := by intro o1 o2; simp; omega
  go_enter Try.func37, Try.ntmps37
  go_wp2_with fail
  go_region_law (refine step_append_lies _ rfl (.tmp 12) (.tmp 16) 67 rfl (bt + 1) 65 i0 _ 7 48 Try.underlying67 hi hz0 hz1 hz2 rfl (by decide) vN k _ (by simp [Act.eval]) ((h.nodes.alloc _).alloc _).drew ⟨w.heap.size + 1, 0, none⟩ 1 1 (node7 fi tx pr k) (by simp [Act.eval]) rfl (news7 w _ fi tx pr k) (node7_one fi tx pr k) (by omega) (by unfold maxLen; omega) (by omega) (hsz _ _) _ rfl ?_; intro g cap w1 hown1 hgrow1 hat1 hlt1; have hd := grown_far h.head (((((Fr.refl [] w).alloc _).alloc _).drew)) h.nodes hgrow1; have e1 : w1.cell? ⟨bt, 1, none⟩ = some vN := hd.cell (by omega); have e2 : w1.frozen? ⟨bt, 1, none⟩ = false := hd.frozen 1)
  all_goals
    obtain ⟨h1, B1⟩ := stepN h (((((Fr.refl [] w).alloc _).alloc _).drew)) hown1 hgrow1 hat1
    clear hown1 hgrow1 hat1 hd e1 e2 c1 hsz h
    generalize (w1.setCell ⟨bt, 1, none⟩ (.slice (some ⟨g, 0, none⟩) (k + 1) cap)) = w2 at h1 B1 ⊢
    have c2 : w2.cell? ⟨bt, 2, none⟩ = some vO := h1.head.cell (by omega)
    have hlt2 := h1.head.lt
    go_upto_region 3 with (at_builtin; refine wpList_append_lies _ rfl (.tmp 24) (.tmp 26) 22 rfl (bt + 1) 3 i3 _ 1 8 Try.underlying22 hi3 hz30 hz31 hz32 rfl (by decide) vO k _ rfl (h1.own.alloc _) ⟨w2.heap.size, 0, none⟩ 1 1 [.int .i64 (tx k)] rfl rfl (cell_one_new _ _ _) (ints_oneCell .i64 [tx k]) (by omega) (by unfold maxLen; omega) (by omega) (by simp; omega) _ rfl ?_; intro g2 cap2 w3 hown2 hgrow2 hat2 hlt3; have hd2 := grown_far h1.head ((Fr.refl [] w2).alloc _) h1.own hgrow2; have e3 : w3.cell? ⟨bt, 2, none⟩ = some vO := hd2.cell (by omega); have e4 : w3.frozen? ⟨bt, 2, none⟩ = false := hd2.frozen 2)
    obtain ⟨h2, B2⟩ := stepO h1 ((Fr.refl [] w2).alloc _) hown2 hgrow2 hat2
    clear hown2 hgrow2 hat2 hd2 e3 e4 c2 h1
    generalize (w3.setCell ⟨bt, 2, none⟩ (.slice (some ⟨g2, 0, none⟩) (k + 1) cap2)) = w4 at h2 B2 ⊢
    have c3 : w4.cell? ⟨bt, 3, none⟩ = some vT := h2.head.cell (by omega)
    have hlt4 := h2.head.lt
    go_wp2_with (at_builtin; refine wpList_append_lies _ rfl (.tmp 34) (.tmp 36) 22 rfl (bt + 1) 3 i3 _ 1 8 Try.underlying22 hi3 hz30 hz31 hz32 rfl (by decide) vT k _ rfl (h2.top.alloc _) ⟨w4.heap.size, 0, none⟩ 1 1 [.int .i64 (tx k)] rfl rfl (cell_one_new _ _ _) (ints_oneCell .i64 [tx k]) (by omega) (by unfold maxLen; omega) (by omega) (by simp; omega) _ rfl ?_; intro g4 cap4 w5 hown4 hgrow4 hat4 hlt5; have hd4 := grown_far h2.head ((Fr.refl [] w4).alloc _) h2.top hgrow4; have e5 : w5.cell? ⟨bt, 3, none⟩ = some vT := hd4.cell (by omega); have e6 : w5.frozen? ⟨bt, 3, none⟩ = false := hd4.frozen 3)
    obtain ⟨h3, B3⟩ := stepT h2 ((Fr.refl [] w4).alloc _) hown4 hgrow4 hat4
    go_end0
    exact ⟨_, _, _, rfl, h3, B1.trans (B2.trans B3)⟩

end Go.Proofs.Qxb6613402a
