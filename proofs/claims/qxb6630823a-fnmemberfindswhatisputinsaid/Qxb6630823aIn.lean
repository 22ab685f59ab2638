import Derived.Test.Qxb6630823aLeaf
import Derived.Laws.StructEq
namespace Go.Proofs.Qxb6630823a
open Go.RowKit

def eq3 (a b : M3) : Bool := eqS a.id b.id && eqS a.peer b.peer && eqS a.client b.client
theorem eq3_refl (a : M3) : eq3 a a = true := by simp [eq3, eqS_refl]
def inB (ms : Nat → M3) (r : M3) : Nat → Bool
  | 0 => false
  | k + 1 => inB ms r k || eq3 (ms k) r
theorem inB_mono (ms : Nat → M3) (r : M3) (k : Nat) (h : inB ms r k = true) : ∀ d, inB ms r (k + d) = true
  | 0 => h
  | d + 1 => by rw [← Nat.add_assoc, inB, inB_mono ms r k h d]; rfl
theorem inB_at (ms : Nat → M3) (n i : Nat) (hi : i < n) : inB ms (ms i) n = true := by
  have := inB_mono ms (ms i) (i + 1) (by rw [inB, eq3_refl]; simp) (n - (i + 1))
  rwa [show i + 1 + (n - (i + 1)) = n by omega] at this

theorem eqv37 (w : World) (a b : M3) : (Op.equalIn 10000 37 (.agg #[.string a.id, .string a.peer, .string a.client]) (.agg #[.string b.id, .string b.peer, .string b.client])).run Try.prog w = .ok (eq3 a b) w := by
  have u9 := Try.underlying9
  have a9 := Try.isAgg9
  have z9 := Try.sizeOf9
  have hS : Try.prog.underlying 37 = some (.struct (Try.prog.fieldsOf 37)) := by kernel_rfl
  have hp : Try.prog.stoodInHeld 37 = false := by kernel_rfl
  rw [show (10000 : Nat) = 9999 + 1 from rfl, run_equalIn_agg w 9999 37 _ _ hS hp]
  simp only [Program.fieldsOf, Try.underlying37]
  go_simp
  unfold eq3 eqS
  by_cases h1 : a.id.toList = b.id.toList <;> by_cases h2 : a.peer.toList = b.peer.toList <;> by_cases h3 : a.client.toList = b.client.toList <;> simp [h1, h2, h3]
theorem eql37 (w : World) (a b : M3) : (binOp .eql 37 (.agg #[.string a.id, .string a.peer, .string a.client]) (.agg #[.string b.id, .string b.peer, .string b.client])).run Try.prog w = .ok (.bool (eq3 a b)) w := by
  rw [run_eql_struct, eqv37]; rfl
theorem neq37 (w : World) (a b : M3) : (binOp .neq 37 (.agg #[.string a.id, .string a.peer, .string a.client]) (.agg #[.string b.id, .string b.peer, .string b.client])).run Try.prog w = .ok (.bool (!eq3 a b)) w := by
  rw [run_neq_struct, eqv37]; rfl
theorem guard37 (w : World) (op : BinOp) (x y : Operand) (xs ys : Array Value) : (eqGuard op 37 x y (.agg xs) (.agg ys)).run Try.prog w = .ok () w :=
  run_eqGuard_agg w op 37 x y xs ys (by kernel_rfl)

structure InPost (n : Nat) (ms : Nat → M3) (r : M3) (w : World) (e : Ending) (w' : World) : Prop where
  ret : e = .returned (.bool (inB ms r n))
  below : Below w.heap.size w w'
theorem below_drew {b : Nat} {w w' : World} (h : Below b w w') (m : Nat) : Below b w (w'.drewN m) := h.trans ⟨rfl, rfl, rfl, Nat.le_refl _, fun _ _ => rfl⟩

set_option maxRecDepth 100000 in
set_option maxHeartbeats 2000000 in
theorem in_any (a : Option Addr) (n c : Nat) (ms : Nat → M3) (r : M3) (w : World) (hn : n ≤ 9223372036854775807) (h : MemsAt w a n ms) :
    Calls Try.prog 13 #[.slice a n c, memV r] w fun e w' => InPost n ms r w e w' := by
  unfold memV
  have he := eql37
  have hg := guard37
  have hb : Below w.heap.size w (w.alloc (Obj.cells #[.string r.id, .string r.peer, .string r.client] 37)) := (Below.refl _ _).alloc (Nat.le_refl _) _
  have e0 : (w.alloc (Obj.cells #[.string r.id, .string r.peer, .string r.client] 37)).cell? ⟨w.heap.size, 0, none⟩ = some (.string r.id) := by rw [cell_of_row _ _ _ _ _ _ (Go.heap_alloc_new _ _)]; rfl
  have e1 : (w.alloc (Obj.cells #[.string r.id, .string r.peer, .string r.client] 37)).cell? ⟨w.heap.size, 1, none⟩ = some (.string r.peer) := by rw [cell_of_row _ _ _ _ _ _ (Go.heap_alloc_new _ _)]; rfl
  have e2 : (w.alloc (Obj.cells #[.string r.id, .string r.peer, .string r.client] 37)).cell? ⟨w.heap.size, 2, none⟩ = some (.string r.client) := by rw [cell_of_row _ _ _ _ _ _ (Go.heap_alloc_new _ _)]; rfl
  replace h := h.grow hb (Nat.le_refl _)
  go_enter Try.func13, Try.ntmps13
  go_wp2
  generalize w.alloc (Obj.cells #[.string r.id, .string r.peer, .string r.client] 37) = W at *
  go_loopg [5] n (fun q i wr => ∃ k : Nat, k + q = n ∧ i = .int .i64 k ∧ (∃ m, wr = W.drewN m) ∧ Hid (inB ms r k = false))
  case atStart => exact ⟨0, by omega, rfl, ⟨0, rfl⟩, rfl⟩
  case round =>
    obtain ⟨k, hk, rfl, ⟨m, rfl⟩, HG⟩ := hrel
    by_cases hlt : k < n
    · obtain ⟨b, o, rfl, hc⟩ := h (by omega)
      obtain ⟨c0, c1, c2⟩ := hc k hlt
      have i1 : (0 : Int) ≤ (k : Int) := by omega
      have i2 : (k : Int) < (n : Int) := by omega
      clear hc h
      cases hq : eq3 (ms k) r
      · have HE : Hid (inB ms r (k + 1) = false) := by unfold Hid; rw [inB, HG.out, hq]; rfl
        go_wp2
        go_quiet (fail)
        go_wp2
        go_roundg (n - (k + 1))
        case rel => exact ⟨k + 1, by omega, by go_num, ⟨m + nq, by simp⟩, HE⟩
        case measure => omega
      · have HE : Hid (inB ms r n = true) := by
          have h1 : inB ms r (k + 1) = true := by rw [inB, hq]; simp
          have := inB_mono ms r (k + 1) h1 (n - (k + 1))
          rwa [show k + 1 + (n - (k + 1)) = n by omega] at this
        go_wp2
        go_quiet (fail)
        go_wp2
        go_ret
        exact ⟨ret_bool HE.out.symm, below_drew (below_drew hb _) _⟩
    · obtain rfl : k = n := by omega
      clear h
      go_wp2
      go_ret
      exact ⟨ret_bool HG.out.symm, below_drew hb _⟩
end Go.Proofs.Qxb6630823a
