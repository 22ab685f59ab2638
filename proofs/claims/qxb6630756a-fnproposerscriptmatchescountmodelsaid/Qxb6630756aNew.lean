import Derived.Test.Qxb6630756aPlace
namespace Go.Proofs.Qxb6630756a
open Go.RowKit

/-- The cells of a ValidatorSet. -/
def setCellsV (m : Int) (vb ib pb cb n : Nat) (T walked chosen : Int) : Array Value :=
  #[.slice (some ⟨vb, 0, none⟩) n n, .map (some ib), .int .i64 T, .int .i32 m, .int .u32 0, .slice (some ⟨pb, 0, none⟩) n n, .int .i64 T, .slice (some ⟨cb, 0, none⟩) n n, .int .i64 walked, .int .i64 chosen]

set_option maxHeartbeats 400000 in
theorem new_any (vb ib pb cb n : Nat) (T : Int) (w : World) :
    Calls Try.prog 14 #[.slice (some ⟨vb, 0, none⟩) n n, .map (some ib), .int .i64 T, .slice (some ⟨pb, 0, none⟩) n n, .slice (some ⟨cb, 0, none⟩) n n, .int .i64 0, .int .i64 0] w
      fun e w' => e = .returned (.pointer (some ⟨w.heap.size, 0, none⟩)) ∧ w' = w.alloc (.cells (setCellsV 0 vb ib pb cb n T 0 0) 56) := by
  go_enter Try.func14, Try.ntmps14
  go_wp2
  go_ret
  exact ⟨rfl, rfl⟩

end Go.Proofs.Qxb6630756a
