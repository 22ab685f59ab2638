import Derived.Test.Qxb6630756aLeaf
import Derived.Deep.Cut
import Derived.Deep.MidRow
namespace Go.Proofs.Qxb6630756a
open Go.RowKit

theorem below_setRow {B : Nat} {a w : World} (h : Below B a w) {g : Nat} (hg : B ≤ g) (cs : Array Value) : Below B a (w.setRow g cs) :=
  h.trans ⟨rfl, rfl, rfl, by simp, fun k hk => setRow_other _ _ _ _ (by omega)⟩

/-- The address of place i, as a value: i + 1 in the first four bytes. -/
def addrCells (i : Nat) : Array Value :=
  #[.int .u8 (((i : Int) + 1) / 16777216), .int .u8 (((i : Int) + 1) / 65536), .int .u8 (((i : Int) + 1) / 256), .int .u8 (((i : Int) + 1) % 256),
    .int .u8 0, .int .u8 0, .int .u8 0, .int .u8 0, .int .u8 0, .int .u8 0, .int .u8 0, .int .u8 0,
    .int .u8 0, .int .u8 0, .int .u8 0, .int .u8 0, .int .u8 0, .int .u8 0, .int .u8 0, .int .u8 0]
def zeroCells : Array Value := Array.replicate 20 (.int .u8 0)

theorem addrCells_size (i : Nat) : (addrCells i).size = 20 := rfl
theorem Try.size33 : (Try.prog.info? 33).map (·.size) = some 20 := by kernel_rfl
theorem addr_one (i : Nat) : (addrCells i).all (·.oneCell') = true := by unfold addrCells; generalize ((i : Int) + 1) / 16777216 = q0; generalize ((i : Int) + 1) / 65536 = q1; generalize ((i : Int) + 1) / 256 = q2; generalize ((i : Int) + 1) % 256 = q3; simp [Value.oneCell']

set_option maxHeartbeats 400000 in
theorem addr_any (i : Nat) (w : World) (hi : i < 4096) :
    Calls Try.prog 13 #[.int .i64 i] w fun e w' => e = .returned (.agg (addrCells i)) ∧ Below w.heap.size w w' := by
  go_enter Try.func13, Try.ntmps13
  go_upto_region 7 with fail
  have hA : ((w.alloc (.cells zeroCells 33)).alloc (.cells (addrCells i) 33)).heap[w.heap.size + 1]? = some (.cells (addrCells i) 33) := heap_alloc2_new _ _ _
  have hB : ((w.alloc (.cells zeroCells 33)).alloc (.cells (addrCells i) 33)).heap[w.heap.size]? = some (.cells zeroCells 33) := heap_alloc2_old _ _ _
  go_wp2_with (first
    | (refine wpList_load_row rfl 33 _ rfl (w.heap.size + 1) rfl 33 (addrCells i) (0, 0) _ hA Try.underlying33 rfl Try.size33 ?_)
    | (refine wpList_store_row rfl 33 _ _ rfl w.heap.size (addrCells i) rfl rfl 33 zeroCells hB Try.size33 rfl (addr_one i) ?_))
  have hC : (((w.alloc (.cells zeroCells 33)).alloc (.cells (addrCells i) 33)).setRow w.heap.size (addrCells i)).heap[w.heap.size]? = some (.cells (addrCells i) 33) := setRow_heap _ _ zeroCells _ _ _ hB
  refine bodyPost_ret (v := .agg (addrCells i)) (results_cell_row Try.results13 _ _ w.heap.size 33 (addrCells i) (0, 0) _ rfl hC Try.underlying33 rfl Try.size33) rfl ⟨rfl, ?_⟩
  exact below_setRow (((Below.refl _ _).alloc (Nat.le_refl _) _).alloc (by simp) _) (Nat.le_refl _) _

end Go.Proofs.Qxb6630756a
