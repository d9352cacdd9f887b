/-
  OWN WORK ON THIS SEAT. Small tools: a frame that lets a list of blocks go ('Fr'); a map from integers to bools as a Bool function ('SetAt').
-/
import Derived.WalkKit
import Derived.Below
import Derived.Maps.OwnSet
import Derived.Deep.Draws
import Derived.Deep.OwnRows
namespace Go.Proofs.Qxb6613402a
open Go.RowKit Go.Maps

/-- w' is w with new blocks and with writes to the blocks of S alone. -/
structure Fr (S : List Nat) (w w' : World) : Prop where
  os : w'.os = w.os
  tape : w'.tape = w.tape
  output : w'.output = w.output
  size : w.heap.size ≤ w'.heap.size
  block : ∀ k, k < w.heap.size → k ∉ S → w'.heap[k]? = w.heap[k]?

theorem Fr.refl (S : List Nat) (w : World) : Fr S w w := ⟨rfl, rfl, rfl, Nat.le_refl _, fun _ _ _ => rfl⟩

theorem Fr.trans {S : List Nat} {a b c : World} (h : Fr S a b) (k : Fr S b c) : Fr S a c :=
  ⟨k.os.trans h.os, k.tape.trans h.tape, k.output.trans h.output, Nat.le_trans h.size k.size,
   fun i hi hs => (k.block i (Nat.lt_of_lt_of_le hi h.size) hs).trans (h.block i hi hs)⟩

theorem Fr.mono {S T : List Nat} {a b : World} (h : Fr S a b) (hs : ∀ k, k ∈ S → k < a.heap.size → k ∈ T) : Fr T a b :=
  ⟨h.os, h.tape, h.output, h.size, fun i hi hn => h.block i hi (fun hm => hn (hs i hm hi))⟩

/-- What is let go and was not there at the start counts for nothing. -/
theorem Fr.transNew {S T : List Nat} {a b c : World} (h : Fr S a b) (k : Fr T b c) (hs : ∀ x, x ∈ T → x < a.heap.size → x ∈ S) : Fr S a c :=
  ⟨k.os.trans h.os, k.tape.trans h.tape, k.output.trans h.output, Nat.le_trans h.size k.size,
   fun i hi hn => (k.block i (Nat.lt_of_lt_of_le hi h.size) (fun hm => hn (hs i hm hi))).trans (h.block i hi hn)⟩

theorem Fr.drew {S : List Nat} {a w : World} (h : Fr S a w) : Fr S a w.drew := ⟨h.os, h.tape, h.output, h.size, h.block⟩

theorem Fr.drewN {S : List Nat} {a w : World} (h : Fr S a w) (n : Nat) : Fr S a (w.drewN n) := ⟨h.os, h.tape, h.output, h.size, h.block⟩

theorem Fr.alloc {S : List Nat} {a w : World} (h : Fr S a w) (o : Obj) : Fr S a (w.alloc o) :=
  h.trans ⟨rfl, rfl, rfl, by simp, fun k hk _ => Below.heap_alloc _ _ _ hk⟩

theorem Fr.setCell {S : List Nat} {a w : World} (h : Fr S a w) {p : Addr} (hp : p.block ∈ S ∨ a.heap.size ≤ p.block) (u : Value) : Fr S a (w.setCell p u) :=
  ⟨h.os, h.tape, h.output, by simpa [World.setCell] using h.size, fun k hk hn => by
    have hne : k ≠ p.block := by
      rcases hp with hp | hp
      · exact fun e => hn (by rw [e]; exact hp)
      · omega
    rw [Below.heap_setCell _ _ _ _ hne]
    exact h.block k hk hn⟩

theorem Fr.grown {S : List Nat} {a w w' : World} {row : Option Nat} (h : Fr S a w) (hg : w.grownBy w' row) (hr : ∀ k, row = some k → k < a.heap.size → k ∈ S) : Fr S a w' :=
  ⟨hg.os.trans h.os, hg.tape.trans h.tape, hg.output.trans h.output, Nat.le_trans h.size hg.size,
   fun k hk hn => (hg.block k (Nat.lt_of_lt_of_le hk h.size) (fun e => hn (hr k e.symm hk))).trans (h.block k hk hn)⟩

theorem Fr.below {S : List Nat} {w w' : World} (h : Fr S w w') (B : Nat) (hB : B ≤ w.heap.size) (hs : ∀ k, k ∈ S → B ≤ k) : Below B w w' :=
  ⟨h.os, h.tape, h.output, h.size, fun k hk => h.block k (by omega) (fun hm => by have := hs k hm; omega)⟩

theorem Fr.of_below {w w' : World} (h : Below w.heap.size w w') : Fr [] w w' :=
  ⟨h.os, h.tape, h.output, h.size, fun k hk _ => h.block k hk⟩

theorem Fr.cell {S : List Nat} {w w' : World} (h : Fr S w w') {p : Addr} {v : Value} (hc : w.cell? p = some v) (hn : p.block ∉ S) : w'.cell? p = some v :=
  (World.cell?_of_block (h.block p.block (World.block_lt_of_cell? w p hc) hn)).trans hc

theorem Fr.frozen {S : List Nat} {w w' : World} (h : Fr S w w') {p : Addr} (hl : p.block < w.heap.size) (hn : p.block ∉ S) : w'.frozen? p = w.frozen? p :=
  World.frozen?_of_block (h.block p.block hl hn)

theorem lt_of_cell {w : World} {p : Addr} {v : Value} (hc : w.cell? p = some v) : p.block < w.heap.size := World.block_lt_of_cell? w p hc

theorem Fr.row {S : List Nat} {w w' : World} {b : Nat} {t : TypeId} {n : Nat} {f : Nat → Value} (h : Fr S w w') (hr : w.rowIs b t n f) (hn : b ∉ S) : w'.rowIs b t n f :=
  hr.of_block (h.block b hr.lt hn)

/-! ### a map from integers to bools -/

/-- Block b is a map of at most n entries; looked up at x it answers 'f x' (false where there is no entry). -/
def SetAt (P : Program) (kt et : TypeId) (q : IntKind) (w : World) (b n : Nat) (f : Int → Bool) : Prop :=
  ∃ D : DataW Unit, w.ownsMap P kt (plainElem P et) b n D ∧ ∀ x, (Lit.int q x).wf = true → D.atKey (.int q x) (.lit (.bool false)) = .lit (.bool (f x))

section
variable {P : Program} {kt et : TypeId} {q : IntKind} {w : World} {b n : Nat} {f : Int → Bool}

theorem SetAt.made (w : World) (P : Program) (kt et : TypeId) (q : IntKind) : SetAt P kt et q (w.alloc (.map #[] 0)) w.heap.size 0 (fun _ => false) :=
  ⟨.map [], World.ownsMap_made _ _ _ _, fun _ _ => rfl⟩

theorem SetAt.lt (h : SetAt P kt et q w b n f) : b < w.heap.size := by obtain ⟨D, h1, _⟩ := h; exact h1.lt

theorem SetAt.kept {w' : World} {row : Option Nat} (h : SetAt P kt et q w b n f) (hg : w.grownBy w' row) (hne : some b ≠ row) : SetAt P kt et q w' b n f := by
  obtain ⟨D, h1, h2⟩ := h
  exact ⟨D, h1.kept hg hne, h2⟩

theorem SetAt.fr {w' : World} {S : List Nat} (h : SetAt P kt et q w b n f) (hg : Fr S w w') (hne : b ∉ S) : SetAt P kt et q w' b n f := by
  have hl := h.lt
  obtain ⟨D, ⟨es, clock, hb, r⟩, h2⟩ := h
  exact ⟨D, ⟨es, clock, (hg.block b hl hne).trans hb, r⟩, h2⟩

theorem SetAt.mono {n' : Nat} (h : SetAt P kt et q w b n f) (hn : n ≤ n') : SetAt P kt et q w b n' f := by
  obtain ⟨D, h1, h2⟩ := h
  exact ⟨D, h1.mono hn, h2⟩

theorem SetAt.congr {f' : Int → Bool} (h : SetAt P kt et q w b n f) (hf : ∀ x, (Lit.int q x).wf = true → f x = f' x) : SetAt P kt et q w b n f' := by
  obtain ⟨D, h1, h2⟩ := h
  exact ⟨D, h1, fun x hx => by rw [h2 x hx, hf x hx]⟩

theorem plainElem_bool_inv {H : Type} {v : Value} {x : Bool} {ps : List MemPlace} (he : P.underlying et = some .bool) (h : plainElem (H := H) P et v = some (.lit (.bool x), ps)) : v = .bool x := by
  unfold plainElem at h
  rw [he] at h
  cases v <;> simp at h
  rw [h.1]

/-- 'm[k]' AT THE OPERATION. -/
theorem wpList_lookup_set {ops : Array Oper} {rest : List Oper} {o : Oper} {a : Act} {Q : Exit → Act → World → Prop}
    (hg : o.guard = none) (m x : Operand) (t : TypeId) (hop : o.op = Op.lookup t m x false) (hk : P.underlying kt = some (.int q)) (he : P.underlying et = some .bool)
    (ht : P.underlying t = some (.map kt et)) (hz : ∀ w, (zeroValue et).run P w = .ok (.bool false) w) (hown : SetAt P kt et q w b n f)
    (hm : a.eval m = .map (some b)) (X : Int) (hx : a.eval x = .int q X) (wx : (Lit.int q X).wf = true)
    (hK : wpList P ops Q rest (a.put o.dst (.bool (f X))) w) :
    wpList P ops Q (o :: rest) a w := by
  obtain ⟨D, h1, h2⟩ := hown
  refine wpList_plain hg fun K' hK' => ?_
  obtain ⟨v, ps, hrun, hv⟩ := h1.lookup (int_keyed hk) ht (hz w) (plainElem_bool he false) (keyOf_int_mk hk wx)
  rw [h2 X wx] at hv
  have := plainElem_bool_inv he hv
  subst this
  unfold Oper.wp
  simp [execOp, hop, hm, hx, hrun, Result.andThen]
  exact hK' _ _ hK

/-- 'm[k] = true' AT THE OPERATION. -/
theorem wpList_update_set {ops : Array Oper} {rest : List Oper} {o : Oper} {a : Act} {Q : Exit → Act → World → Prop}
    (hg : o.guard = none) (m x v : Operand) (t : TypeId) (hop : o.op = Op.mapUpdate t m x v) (hk : P.underlying kt = some (.int q)) (he : P.underlying et = some .bool)
    (ht : P.underlying t = some (.map kt et)) (hown : SetAt P kt et q w b n f) (hn : n < maxLen)
    (hm : a.eval m = .map (some b)) (X : Int) (hx : a.eval x = .int q X) (hv : a.eval v = .bool true) (wx : (Lit.int q X).wf = true)
    (hK : ∀ w', SetAt P kt et q w' b (n + 1) (fun y => f y || y == X) → w.grownBy w' (some b) → wpList P ops Q rest (a.put o.dst undef) w') :
    wpList P ops Q (o :: rest) a w := by
  obtain ⟨D, h1, h2⟩ := hown
  refine wpList_plain hg fun K' hK' => ?_
  have hkl : keyOf P kt (.int q X) = some (.int q X) := keyOf_int_mk hk wx
  obtain ⟨w', hrun, r1, r2⟩ := h1.update (int_keyed hk) ht hn hkl (plainElem_bool he true)
  unfold Oper.wp
  simp [execOp, hop, hm, hx, hv, hrun, Result.andThen]
  refine hK' _ _ (hK w' ⟨_, r1, ?_⟩ r2)
  intro y wy
  by_cases hy : y = X
  · subst hy
    rw [atKey_put_same h1.isMap (show WideAt.IsKeyLit (.int q y) from trivial)]
    simp
  · rw [atKey_put_other (by intro e; injection e with _ e2; exact hy e2), h2 y wy]
    simp [hy]

end

theorem run_makeMap_hint {P : Program} {t k e : TypeId} (ht : P.underlying t = some (.map k e)) (q : IntKind) (x : Int) (w : World) :
    (Instr.makeMap t (some (.int q x))).run P w = .ok (.map (some w.heap.size)) (w.alloc (.map #[] 0)) := by
  simp [Instr.makeMap, run_underlying ht, asInt, asIntOf, Result.andThen]

end Go.Proofs.Qxb6613402a
