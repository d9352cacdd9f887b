import Derived.Test.Qxb6613559aW1
namespace Go.Proofs.Qxb6613559a
open Go.RowKit

/-- A slice of bools that is read. -/
structure RdB (w : World) (a : Option Addr) (b off len : Nat) (g : Nat → Bool) : Prop where
  adr : 0 < len → a = some ⟨b, off, none⟩
  cell : ∀ i, i < len → w.cell? ⟨b, off + i, none⟩ = some (.bool (g i))

theorem RdB.fr {w w' : World} {a : Option Addr} {b off len : Nat} {g : Nat → Bool} {S : List Nat} (h : RdB w a b off len g) (hf : Fr S w w') (hn : 0 < len → b ∉ S) : RdB w' a b off len g :=
  ⟨h.adr, fun i hi => hf.cell (h.cell i hi) (hn (by omega))⟩
theorem RdB.lt {w : World} {a : Option Addr} {b off len : Nat} {g : Nat → Bool} (h : RdB w a b off len g) (h0 : 0 < len) : b < w.heap.size := lt_of_cell (h.cell 0 h0)

theorem info53 : (Try.prog.info? 53).map (fun i => (i.zero, i.size, i.bytes)) = some (some (.agg #[.bool false, .nilFunc, .pointer none, .slice none 0 0]), 4, 48) := by kernel_rfl
theorem info4 : (Try.prog.info? 4).map (fun i => (i.zero, i.size, i.bytes)) = some (some (.bool false), 1, 1) := by kernel_rfl

/-- 'make([]T, n)', T of several cells. -/
theorem run_make_wide {P : Program} (t e : TypeId) (z : Value) (size bytes : Nat) (ht : P.underlying t = some (.slice e)) (hinfo : (P.info? e).map (fun i => (i.zero, i.size, i.bytes)) = some (some z, size, bytes))
    (kl kc : IntKind) (n : Nat) (hbytes : bytes * n ≤ 281474976710656) (h63 : n ≤ 9223372036854775807) (w : World) :
    (Instr.makeSlice t (.int kl (n : Int)) (.int kc (n : Int))).run P w = .ok (.slice (some ⟨w.heap.size, 0, none⟩) n n) (w.alloc (.cells (madeCells z.cells (n * size)) e)) := by
  obtain ⟨i, hi, hzz⟩ := Option.map_eq_some_iff.1 hinfo
  simp only [Prod.mk.injEq] at hzz
  obtain ⟨hz, hs, hb⟩ := hzz
  subst hs hb
  have hb' : (i.bytes : Int) * (n : Int) ≤ 281474976710656 := by
    have h : ((i.bytes * n : Nat) : Int) ≤ 281474976710656 := by omega
    rwa [Int.natCast_mul] at h
  have hr := run_make (P := P) w t e i z ht hi hz kl kc n n (by omega) (Int.le_refl _) hb' (by omega)
  simpa only [Int.toNat_natCast] using hr

theorem row_made (w : World) (z : Array Value) (n : Nat) (t : TypeId) : (w.alloc (.cells (madeCells z n) t)).rowIs w.heap.size t n (fun i => z[i % z.size]!) :=
  ⟨_, Go.Deep.blk_alloc_new _ _, size_madeCells _ _, fun i hi => by simp [madeCells, hi]⟩

theorem RoundAt.congr {w : World} {br bq n : Nat} {R H B R' H' B' : Nat → Bool} (h : RoundAt w br bq n R H B) (e1 : ∀ i, i < n → R i = R' i) (e2 : ∀ i, i < n → H i = H' i) (e3 : ∀ i, i < n → B i = B' i) : RoundAt w br bq n R' H' B' := by
  obtain ⟨g, r2, e⟩ := h.reqs
  refine ⟨h.head, ⟨g, r2, fun i hi => ?_⟩, h.ne, h.hn⟩
  rw [← e1 i hi, ← e2 i hi, ← e3 i hi]
  exact e i hi

/-- What the building of one held request makes of the round. -/
theorem held_step {w : World} {br bq n k : Nat} {R H B : Nat → Bool} (h : RoundAt w br bq n R H B) (o : Obj) (a : Addr) :
    RoundAt ((((w.setCell ⟨bq, k * 4, none⟩ (.bool true)).setCell ⟨bq, k * 4 + 1, none⟩ (.func (.func 15) #[] #[])).setCell ⟨bq, k * 4 + 2, none⟩ (.pointer (some a))).alloc o) br bq n (updB R k true) (updB H k true) (updB B k true) := by
  obtain ⟨f, r1, e1, e2⟩ := h.head
  obtain ⟨g, r2, e3⟩ := h.reqs
  have hne := h.ne
  refine ⟨⟨f, ((((r1.setOther (a := ⟨bq, k * 4, none⟩) hne _).setOther (a := ⟨bq, k * 4 + 1, none⟩) hne _).setOther (a := ⟨bq, k * 4 + 2, none⟩) hne _).alloc o), e1, e2⟩, ⟨_, ((((r2.set (k * 4) _).set (k * 4 + 1) _).set (k * 4 + 2) _).alloc o), fun j hj => ?_⟩, hne, h.hn⟩
  obtain ⟨a1, a2, a3⟩ := e3 j hj
  by_cases e : j = k
  · subst e
    refine ⟨?_, ?_, ?_⟩
    · rw [if_neg (by omega), if_neg (by omega), if_pos rfl]; simp [updB]
    · rw [if_neg (by omega), if_pos rfl]; simp [updB, jobV]
    · rw [if_pos rfl]; simp [updB, ptrV]
  · refine ⟨?_, ?_, ?_⟩
    · rw [if_neg (by omega), if_neg (by omega), if_neg (by omega)]; simpa [updB, e] using a1
    · rw [if_neg (by omega), if_neg (by omega), if_neg (by omega)]; simpa [updB, e] using a2
    · rw [if_neg (by omega), if_neg (by omega), if_neg (by omega)]; simpa [updB, e] using a3

/-- The first k of m. -/
def cutB (m : Nat → Bool) (k : Nat) : Nat → Bool := fun j => m j && decide (j < k)

theorem round_start {w : World} {n : Nat} {hd : Array Value} (hs : hd.size = 15) (h10 : hd[10]? = some (.int .i32 0)) (h13 : hd[13]? = some (.slice (some ⟨w.heap.size, 0, none⟩) n n)) (hn : n ≤ 4096) :
    RoundAt ((w.alloc (.cells (madeCells #[.bool false, .nilFunc, .pointer none, .slice none 0 0] (n * 4)) 53)).alloc (.cells hd 50)) (w.heap.size + 1) w.heap.size n (fun _ => false) (fun _ => false) (fun _ => false) := by
  refine ⟨⟨fun i => hd[i]!, ⟨hd, ?_, hs, fun i hi => ?_⟩, ?_, ?_⟩, ⟨_, ((Fr.refl [] _).alloc _).row (row_made w _ (n * 4) 53) (by simp), fun i hi => ?_⟩, by omega, hn⟩
  · have h := Go.Deep.blk_alloc_new (w.alloc (.cells (madeCells #[.bool false, .nilFunc, .pointer none, .slice none 0 0] (n * 4)) 53)) (.cells hd 50)
    rw [show (w.alloc (.cells (madeCells #[.bool false, .nilFunc, .pointer none, .slice none 0 0] (n * 4)) 53)).heap.size = w.heap.size + 1 by simp] at h
    exact h
  · have : i < hd.size := by omega
    simp [this]
  · show hd[10]! = _
    rw [Array.getElem!_eq_getD, Array.getD_eq_getD_getElem?, h10]; rfl
  · show hd[13]! = _
    rw [Array.getElem!_eq_getD, Array.getD_eq_getD_getElem?, h13]; rfl
  · have e0 : (i * 4) % 4 = 0 := by omega
    have e1 : (i * 4 + 1) % 4 = 1 := by omega
    have e2 : (i * 4 + 2) % 4 = 2 := by omega
    refine ⟨?_, ?_, ?_⟩
    · show (#[Value.bool false, .nilFunc, .pointer none, .slice none 0 0] : Array Value)[(i * 4) % 4]! = _
      rw [e0]; rfl
    · show (#[Value.bool false, .nilFunc, .pointer none, .slice none 0 0] : Array Value)[(i * 4 + 1) % 4]! = _
      rw [e1]; rfl
    · show ptrV false ((#[Value.bool false, .nilFunc, .pointer none, .slice none 0 0] : Array Value)[(i * 4 + 2) % 4]!)
      rw [e2]; rfl

set_option maxHeartbeats 1000000 in
theorem new8 (a : Option Addr) (b off n cap : Nat) (m : Nat → Bool) (w : World) (hn : n ≤ 4096) (hr : RdB w a b off n m) :
    Calls Try.prog 8 #[.slice a n cap] w fun e w' => e = .returned (.pointer (some ⟨w.heap.size + 1, 0, none⟩)) ∧ RoundAt w' (w.heap.size + 1) w.heap.size n m m m ∧ Fr [] w w' := by
  have hmk := run_make_wide (P := Try.prog) 31 53 _ 4 48 Try.underlying31 info53 .i64 .i64 n (by omega) (by omega)
  go_enter Try.func8, Try.ntmps8
  go_wp2_with fail
  go_loopw [4] (fun i wr => ∃ k : Nat, k ≤ n ∧ i = .int .i64 k ∧ RoundAt wr (w.heap.size + 1) w.heap.size n (cutB m k) (cutB m k) (cutB m k) ∧ Fr [] w wr) (fun i _ => n - (intOf i).toNat)
  case atStart =>
    exact ⟨0, Nat.zero_le _, rfl, (round_start rfl rfl rfl hn).congr (fun i _ => by simp [cutB]) (fun i _ => by simp [cutB]) (fun i _ => by simp [cutB]), ((Fr.refl _ _).alloc _).alloc _⟩
  case round =>
    obtain ⟨k, hk, rfl, h, hF⟩ := hrel
    clear hmk
    by_cases hlt : k < n
    · obtain rfl := hr.adr (by omega)
      have hki : (k : Int) < (n : Int) := by omega
      have k0 : wr.cell? ⟨b, off + k, none⟩ = some (.bool (m k)) := hF.cell (hr.cell k hlt) (by simp)
      cases hm : m k
      · rw [hm] at k0
        have h' : RoundAt wr (w.heap.size + 1) w.heap.size n (cutB m (k + 1)) (cutB m (k + 1)) (cutB m (k + 1)) := by
          have e : ∀ i, i < n → cutB m k i = cutB m (k + 1) i := by
            intro i _
            unfold cutB
            by_cases ei : i = k
            · subst ei; simp [hm]
            · congr 1
              simp; omega
          exact h.congr e e e
        clear hm h
        go_wp2_with fail
        go_roundw
        case rel => exact ⟨k + 1, by omega, by go_num, h', hF⟩
        case measure => simp [intOf]; omega
      · rw [hm] at k0
        obtain ⟨f, r1, e1, e2⟩ := h.head
        obtain ⟨g, r2, e3⟩ := h.reqs
        have q0 : wr.cell? ⟨w.heap.size + 1, 13, none⟩ = some (.slice (some ⟨w.heap.size, 0, none⟩) n n) := by rw [r1.cell (by omega), e2]
        have j0 : wr.cell? ⟨w.heap.size, k * 4, none⟩ = some (g (k * 4)) := r2.cell (by omega)
        have j1 : wr.cell? ⟨w.heap.size, k * 4 + 1, none⟩ = some (g (k * 4 + 1)) := r2.cell (by omega)
        have j2 : wr.cell? ⟨w.heap.size, k * 4 + 2, none⟩ = some (g (k * 4 + 2)) := r2.cell (by omega)
        have z0 : wr.frozen? ⟨w.heap.size, k * 4, none⟩ = false := r2.frozen _
        have z1 : wr.frozen? ⟨w.heap.size, k * 4 + 1, none⟩ = false := r2.frozen _
        have z2 : wr.frozen? ⟨w.heap.size, k * 4 + 2, none⟩ = false := r2.frozen _
        have l1 := r1.lt
        have l2 := r2.lt
        have x1 := World.new_ne wr _ q0
        have x2 := World.new_ne wr _ j0
        have HR : Hid (RoundAt wr (w.heap.size + 1) w.heap.size n (cutB m k) (cutB m k) (cutB m k)) := h
        have HM : Hid (m k = true) := hm
        clear h r1 r2 e1 e2 e3 hm
        go_wp2_with fail
        go_roundw
        case rel =>
          have e : ∀ i, i < n → updB (cutB m k) k true i = cutB m (k + 1) i := by
            intro i _
            unfold cutB updB
            by_cases ei : i = k
            · subst ei; simp [HM.out]
            · have hd : decide (i < k) = decide (i < k + 1) := decide_eq_decide.2 (by omega)
              simp only [if_neg ei, hd]
          exact ⟨k + 1, by omega, by go_num, (held_step HR.out _ _).congr e e e, (((hF.setCell (.inr (Nat.le_refl _)) _).setCell (.inr (Nat.le_refl _)) _).setCell (.inr (Nat.le_refl _)) _).alloc _⟩
        case measure => simp [intOf]; omega
    · obtain rfl : k = n := by omega
      go_wp2_with fail
      go_ret
      have e : ∀ i, i < k → cutB m k i = m i := by intro i hi; simp [cutB, hi]
      exact ⟨rfl, h.congr e e e, hF⟩

end Go.Proofs.Qxb6613559a
