import Derived.Test.Qxb6613402aTAt
import Derived.Deep.QuietTactic
import Derived.BigQuiet
import Derived.RegionTactic
import Derived.Laws.ResultCell
namespace Go.Proofs.Qxb6613402a
open Go.RowKit
open Go.Deep (BT)

set_option maxHeartbeats 400000 in
theorem znode29 (s : Sh) (M : Mem) (k : Nat) (w : World) (h : TreeAt s w M) (hk : k < s.n) :
    Calls Try.prog 29 #[.pointer (some ⟨s.bt, 0, none⟩), .int .i32 k] w fun e w' =>
      e = .returned (.tuple #[.agg #[.int .i64 (s.tx k), .int .i64 (s.fi k), .int .i64 (s.fi k), .int .i64 0], .int .u64 (s.pr k), .int .i32 (M.L k), .int .i32 (M.R k)]) ∧ Fr [] w w' := by
  have c1 : w.cell? ⟨s.bt, 1, none⟩ = some (.slice (some ⟨s.bn, 0, none⟩) s.n s.cn) := h.head.cell (by omega)
  have n0 : w.cell? ⟨s.bn, k * 7, none⟩ = some (.int .i64 (s.tx k)) := h.cellN (j := 0) hk (by omega)
  have n1 : w.cell? ⟨s.bn, k * 7 + 1, none⟩ = some (.int .i64 (s.fi k)) := h.cellN hk (by omega)
  have n2 : w.cell? ⟨s.bn, k * 7 + 2, none⟩ = some (.int .i64 (s.fi k)) := h.cellN hk (by omega)
  have n3 : w.cell? ⟨s.bn, k * 7 + 3, none⟩ = some (.int .i64 0) := h.cellN hk (by omega)
  have n4 : w.cell? ⟨s.bn, k * 7 + 4, none⟩ = some (.int .u64 (s.pr k)) := h.cellN hk (by omega)
  have n5 : w.cell? ⟨s.bn, k * 7 + 5, none⟩ = some (.int .i32 (M.L k)) := h.cellN hk (by omega)
  have n6 : w.cell? ⟨s.bn, k * 7 + 6, none⟩ = some (.int .i32 (M.R k)) := h.cellN hk (by omega)
  have l1 := h.head.lt
  have l2 : s.bn < w.heap.size := lt_of_cell n0
  have hn := h.hn
  go_enter Try.func29, Try.ntmps29
  go_wp2_with fail
  clear c1 n0 n1 n2 n3 n4 n5 n6
  go_region
  all_goals
    go_wp2_with fail
    exact bodyPost_ret (v := .tuple #[.agg #[.int .i64 (s.tx k), .int .i64 (s.fi k), .int .i64 (s.fi k), .int .i64 0], .int .u64 (s.pr k), .int .i32 (M.L k), .int .i32 (M.R k)]) (by simp [results, Try.results29, go_sem]) rfl ⟨rfl, (((Fr.refl _ _).alloc _).alloc _).drew⟩

end Go.Proofs.Qxb6613402a
