import Derived.Test.Qxb6630756aAddr
namespace Go.Proofs.Qxb6630756a
open Go.RowKit

theorem ret_int {k : IntKind} {a b : Int} (h : a = b) : Ending.returned (.int k a) = .returned (.int k b) := by rw [h]
theorem ofInt_64 (a : Nat) (ha : a < 18446744073709551616) : (BitVec.ofInt 64 (a : Int)).toNat = a := by
  rw [BitVec.ofInt_natCast, BitVec.toNat_ofNat]; exact Nat.mod_eq_of_lt (by omega)
theorem wrap_i64_small (n : Nat) (h : n < 9223372036854775808) : IntKind.i64.wrap (n : Int) = (n : Int) := by
  have e : (n : Int) % 2 ^ 64 = n := Int.emod_eq_of_lt (by omega) (by omega)
  simp only [IntKind.wrap, IntKind.bits, IntKind.signed, e]
  rw [if_neg]
  simp
  omega
theorem i64_or_nat (a b : Nat) (ha : a < 4294967296) (hb : b < 4294967296) : bits .or .i64 (a : Int) (b : Int) = ((a ||| b : Nat) : Int) := by
  have hx : a ||| b < 2 ^ 32 := Nat.or_lt_two_pow (by omega) (by omega)
  show IntKind.i64.wrap ((BitVec.ofInt 64 (a : Int) ||| BitVec.ofInt 64 (b : Int)).toNat : Int) = _
  rw [BitVec.toNat_or, ofInt_64 a (by omega), ofInt_64 b (by omega)]
  exact wrap_i64_small _ (by omega)
theorem or_mul (a b i m : Nat) (hm : m = 2 ^ i) (h : a < m) : (b * m) ||| a = b * m + a := by
  subst hm
  rw [← Nat.shiftLeft_eq, Nat.shiftLeft_add_eq_or_of_lt h]
theorem place_bits (h l : Int) (h0 : 0 ≤ h) (h1 : h ≤ 16) (l0 : 0 ≤ l) (l1 : l ≤ 255) :
    bits BinOp.or IntKind.i64 (bits BinOp.or IntKind.i64 (bits BinOp.or IntKind.i64 0 0) (h * 256)) l = h * 256 + l := by
  obtain ⟨a, rfl⟩ := Int.eq_ofNat_of_zero_le h0
  obtain ⟨b, rfl⟩ := Int.eq_ofNat_of_zero_le l0
  have z : bits BinOp.or IntKind.i64 0 0 = ((0 : Nat) : Int) := i64_or_nat 0 0 (by omega) (by omega)
  have e : ((a : Int) * 256) = ((a * 256 : Nat) : Int) := by omega
  rw [z, e, i64_or_nat 0 (a * 256) (by omega) (by omega), Nat.zero_or, i64_or_nat (a * 256) b (by omega) (by omega), or_mul b a 8 256 (by decide) (by omega)]
  omega

set_option maxHeartbeats 400000 in
theorem place_any (j n : Nat) (w : World) (hn : n ≤ 4096) (hj : j < n) :
    Calls Try.prog 11 #[.agg (addrCells j), .int .i64 n] w fun e w' => e = .returned (.int .i64 j) ∧ Below w.heap.size w w' := by
  obtain ⟨h, h0, h1, e2⟩ : ∃ h : Int, 0 ≤ h ∧ h ≤ 16 ∧ ((j : Int) + 1) / 256 = h := ⟨_, by omega, by omega, rfl⟩
  obtain ⟨l, l0, l1, e3⟩ : ∃ l : Int, 0 ≤ l ∧ l ≤ 255 ∧ ((j : Int) + 1) % 256 = l := ⟨_, by omega, by omega, rfl⟩
  have e0 : ((j : Int) + 1) / 16777216 = 0 := by omega
  have e1 : ((j : Int) + 1) / 65536 = 0 := by omega
  have hv : (j : Int) + 1 = h * 256 + l := by omega
  have hsz : (w.alloc (Obj.cells (addrCells j) 33)).heap[w.heap.size]? = some (.cells (addrCells j) 33) := heap_alloc_new _ _
  have cell : ∀ k : Nat, (w.alloc (Obj.cells (addrCells j) 33)).cell? ⟨w.heap.size, k, none⟩ = (addrCells j)[k]? := fun k => cell_of_row _ _ _ _ _ _ hsz
  have bel : Below w.heap.size w (w.alloc (Obj.cells (addrCells j) 33)) := (Below.refl _ _).alloc (Nat.le_refl _) _
  have c0 : (w.alloc (Obj.cells (addrCells j) 33)).cell? ⟨w.heap.size, 0, none⟩ = some (.int .u8 0) := by rw [cell, addrCells, e0]; rfl
  have c1 : (w.alloc (Obj.cells (addrCells j) 33)).cell? ⟨w.heap.size, 1, none⟩ = some (.int .u8 0) := by rw [cell, addrCells, e1]; rfl
  have c2 : (w.alloc (Obj.cells (addrCells j) 33)).cell? ⟨w.heap.size, 2, none⟩ = some (.int .u8 h) := by rw [cell, addrCells, e2]; rfl
  have c3 : (w.alloc (Obj.cells (addrCells j) 33)).cell? ⟨w.heap.size, 3, none⟩ = some (.int .u8 l) := by rw [cell, addrCells, e3]; rfl
  have hc : ∀ k : Nat, 4 ≤ k → k < 20 → (w.alloc (Obj.cells (addrCells j) 33)).cell? ⟨w.heap.size, k, none⟩ = some (.int .u8 0) := by
    intro k k4 k20
    rw [cell]
    have : k = 4 ∨ k = 5 ∨ k = 6 ∨ k = 7 ∨ k = 8 ∨ k = 9 ∨ k = 10 ∨ k = 11 ∨ k = 12 ∨ k = 13 ∨ k = 14 ∨ k = 15 ∨ k = 16 ∨ k = 17 ∨ k = 18 ∨ k = 19 := by omega
    rcases this with rfl | rfl | rfl | rfl | rfl | rfl | rfl | rfl | rfl | rfl | rfl | rfl | rfl | rfl | rfl | rfl <;> rfl
  have HV : Hid ((j : Int) + 1 = h * 256 + l) := hv
  have v1 : 1 ≤ h * 256 + l := by omega
  have v2 : h * 256 + l ≤ n := by omega
  clear e0 e1 e2 e3 hv cell hsz
  go_enter Try.func11, Try.ntmps11
  go_upto_region 1 with fail
  generalize w.alloc (Obj.cells (addrCells j) 33) = W at *
  go_wp2
  go_loop [5] (fun i => ∃ k : Nat, 4 ≤ k ∧ k ≤ 20 ∧ i = .int .i64 k) (fun i => 20 - (intOf i).toNat)
  case atStart => exact ⟨4, by omega, by omega, rfl⟩
  case round =>
    obtain ⟨k, hk4, hk, rfl⟩ := hrel
    by_cases hlt : k < 20
    · have hk1 := hc k hk4 hlt
      clear hc
      go_wp2
      go_round
      case rel => exact ⟨k + 1, by omega, by omega, by go_num⟩
      case measure => simp [intOf]; omega
    · clear hc
      have hbits := place_bits h l h0 h1 l0 l1
      go_wp2
      go_ret
      have := HV.out
      exact ⟨ret_int (show h * 256 + l - 1 = (j : Int) by omega), bel⟩

end Go.Proofs.Qxb6630756a
