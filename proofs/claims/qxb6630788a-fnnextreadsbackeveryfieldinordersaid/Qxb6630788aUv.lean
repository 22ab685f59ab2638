import Derived.Test.Qxb6630788aPut
namespace Go.Proofs.Qxb6630788a
open Go.RowKit

theorem ofInt_64 (a : Nat) (ha : a < 18446744073709551616) : (BitVec.ofInt 64 (a : Int)).toNat = a := by
  rw [BitVec.ofInt_natCast, BitVec.toNat_ofNat]; exact Nat.mod_eq_of_lt (by omega)
theorem u64_or_nat (a b : Nat) (ha : a < 4294967296) (hb : b < 4294967296) : bits .or .u64 (a : Int) (b : Int) = ((a ||| b : Nat) : Int) := by
  have hx : a ||| b < 2 ^ 32 := Nat.or_lt_two_pow (by omega) (by omega)
  show IntKind.u64.wrap ((BitVec.ofInt 64 (a : Int) ||| BitVec.ofInt 64 (b : Int)).toNat : Int) = _
  rw [BitVec.toNat_or, ofInt_64 a (by omega), ofInt_64 b (by omega)]
  simp only [IntKind.wrap, IntKind.bits, IntKind.signed]
  generalize a ||| b = q at *
  simp
  omega
theorem or_mul (a b i m : Nat) (hm : m = 2 ^ i) (h : a < m) : a ||| (b * m) = b * m + a := by
  subst hm
  rw [Nat.or_comm, ← Nat.shiftLeft_eq, Nat.shiftLeft_add_eq_or_of_lt h]
theorem or_at (a b i m : Nat) (hm : m = 2 ^ i) (h : a < m) (ha : a < 4294967296) (hb : b * m < 4294967296) : bits .or .u64 (a : Int) ((b : Int) * (m : Int)) = ((b * m + a : Nat) : Int) := by
  rw [show (b : Int) * (m : Int) = ((b * m : Nat) : Int) by simp, u64_or_nat _ _ ha hb, or_mul a b i m hm h]
theorem and127 (q : Nat) (h : q < 128) : bits BinOp.and IntKind.u8 ((q : Int) + 128) 127 = (q : Int) := by
  have h' : ∀ q : Nat, q < 128 → bits BinOp.and IntKind.u8 ((q : Int) + 128) 127 = (q : Int) := by decide +kernel
  exact h' q h

structure UvPost (v k : Nat) (w : World) (e : Ending) (w' : World) : Prop where
  ret : e = .returned (.tuple #[.int .u64 v, .int .i64 k])
  same : w' = w

set_option maxRecDepth 100000 in
set_option maxHeartbeats 1000000 in
theorem uv1 (g off n c v : Nat) (w : World) (hv : v < 128) (hn : 1 ≤ n) (_hn2 : n ≤ 4294967296) (h0 : w.cell? ⟨g, off, none⟩ = some (.int .u8 v)) :
    Calls Try.prog 10 #[.slice (some ⟨g, off, none⟩) n c] w fun e w' => UvPost v 1 w e w' := by
  have e0 : bits BinOp.or IntKind.u64 0 (v : Int) = v := by
    have := or_at 0 v 0 1 (by decide) (by omega) (by omega) (by omega)
    simpa using this
  go_enter Try.func10, Try.ntmps10
  go_wp2_with fail
  go_loopg [4, 5, 10] 1 (fun q x s i wr => wr = w ∧ x = .int .u64 0 ∧ s = .int .u64 0 ∧ i = .int .i64 0)
  case atStart => exact ⟨rfl, rfl, rfl, rfl⟩
  case round =>
    obtain ⟨hw, rfl, rfl, rfl⟩ := hrel
    subst wr
    go_wp2_with fail
    go_ret2
    exact ⟨rfl, rfl⟩

set_option maxRecDepth 100000 in
set_option maxHeartbeats 1000000 in
theorem uv2 (g off n c v : Nat) (w : World) (hv : 128 ≤ v) (hv2 : v < 16384) (hn : 2 ≤ n) (_hn2 : n ≤ 4294967296) (h0 : w.cell? ⟨g, off, none⟩ = some (.int .u8 ((v : Int) % 128 + 128))) (h1 : w.cell? ⟨g, off + 1, none⟩ = some (.int .u8 ((v : Int) / 128))) :
    Calls Try.prog 10 #[.slice (some ⟨g, off, none⟩) n c] w fun e w' => UvPost v 2 w e w' := by
  have ea : bits BinOp.and IntKind.u8 ((v : Int) % 128 + 128) 127 = (v : Int) % 128 := by
    have := and127 (v % 128) (by omega)
    simpa using this
  have e0 : bits BinOp.or IntKind.u64 0 ((v : Int) % 128) = (v : Int) % 128 := by
    have := or_at 0 (v % 128) 0 1 (by decide) (by omega) (by omega) (by omega)
    simpa using this
  have e1 : bits BinOp.or IntKind.u64 ((v : Int) % 128) ((v : Int) / 128 * 128) = v := by
    have := or_at (v % 128) (v / 128) 7 128 (by decide) (by omega) (by omega) (by omega)
    rw [show v / 128 * 128 + v % 128 = v by omega] at this
    simpa using this
  have HV : Hid (128 ≤ v) := hv
  go_enter Try.func10, Try.ntmps10
  go_wp2_with fail
  go_loopg [4, 5, 10] 1 (fun q x s i wr => wr = w ∧ ((q = 1 ∧ x = .int .u64 0 ∧ s = .int .u64 0 ∧ i = .int .i64 0) ∨ (q = 0 ∧ x = .int .u64 ((v : Int) % 128) ∧ s = .int .u64 7 ∧ i = .int .i64 1)))
  case atStart => exact ⟨rfl, .inl ⟨rfl, rfl, rfl, rfl⟩⟩
  case round =>
    obtain ⟨hw, ⟨hq, rfl, rfl, rfl⟩ | ⟨hq, rfl, rfl, rfl⟩⟩ := hrel
    · subst wr
      go_wp2_with fail
      go_roundg 0
      case measure => omega
      case rel => exact ⟨rfl, .inr ⟨rfl, rfl, rfl, rfl⟩⟩
    · subst wr
      go_wp2_with fail
      go_ret2
      exact ⟨rfl, rfl⟩

set_option maxRecDepth 100000 in
set_option maxHeartbeats 1000000 in
theorem uv3 (g off n c v : Nat) (w : World) (hv : 16384 ≤ v) (hv2 : v < 2097152) (hn : 3 ≤ n) (_hn2 : n ≤ 4294967296) (h0 : w.cell? ⟨g, off, none⟩ = some (.int .u8 ((v : Int) % 128 + 128))) (h1 : w.cell? ⟨g, off + 1, none⟩ = some (.int .u8 ((v : Int) / 128 % 128 + 128)))
    (h2 : w.cell? ⟨g, off + 2, none⟩ = some (.int .u8 ((v : Int) / 16384))) :
    Calls Try.prog 10 #[.slice (some ⟨g, off, none⟩) n c] w fun e w' => UvPost v 3 w e w' := by
  have ea : bits BinOp.and IntKind.u8 ((v : Int) % 128 + 128) 127 = (v : Int) % 128 := by
    have := and127 (v % 128) (by omega)
    simpa using this
  have eb : bits BinOp.and IntKind.u8 ((v : Int) / 128 % 128 + 128) 127 = (v : Int) / 128 % 128 := by
    have := and127 (v / 128 % 128) (by omega)
    simpa using this
  have e0 : bits BinOp.or IntKind.u64 0 ((v : Int) % 128) = (v : Int) % 128 := by
    have := or_at 0 (v % 128) 0 1 (by decide) (by omega) (by omega) (by omega)
    simpa using this
  have e1 : bits BinOp.or IntKind.u64 ((v : Int) % 128) ((v : Int) / 128 % 128 * 128) = (v : Int) % 16384 := by
    have := or_at (v % 128) (v / 128 % 128) 7 128 (by decide) (by omega) (by omega) (by omega)
    rw [show v / 128 % 128 * 128 + v % 128 = v % 16384 by omega] at this
    simpa using this
  have e2 : bits BinOp.or IntKind.u64 ((v : Int) % 16384) ((v : Int) / 16384 * 16384) = v := by
    have := or_at (v % 16384) (v / 16384) 14 16384 (by decide) (by omega) (by omega) (by omega)
    rw [show v / 16384 * 16384 + v % 16384 = v by omega] at this
    simpa using this
  have HV : Hid (16384 ≤ v) := hv
  go_enter Try.func10, Try.ntmps10
  go_wp2_with fail
  go_loopg [4, 5, 10] 2 (fun q x s i wr => wr = w ∧ ((q = 2 ∧ x = .int .u64 0 ∧ s = .int .u64 0 ∧ i = .int .i64 0) ∨ (q = 1 ∧ x = .int .u64 ((v : Int) % 128) ∧ s = .int .u64 7 ∧ i = .int .i64 1) ∨ (q = 0 ∧ x = .int .u64 ((v : Int) % 16384) ∧ s = .int .u64 14 ∧ i = .int .i64 2)))
  case atStart => exact ⟨rfl, .inl ⟨rfl, rfl, rfl, rfl⟩⟩
  case round =>
    obtain ⟨hw, ⟨hq, rfl, rfl, rfl⟩ | ⟨hq, rfl, rfl, rfl⟩ | ⟨hq, rfl, rfl, rfl⟩⟩ := hrel
    · subst wr
      go_wp2_with fail
      go_roundg 1
      case measure => omega
      case rel => exact ⟨rfl, .inr (.inl ⟨rfl, rfl, rfl, rfl⟩)⟩
    · subst wr
      go_wp2_with fail
      go_roundg 0
      case measure => omega
      case rel => exact ⟨rfl, .inr (.inr ⟨rfl, rfl, rfl, rfl⟩)⟩
    · subst wr
      go_wp2_with fail
      go_ret2
      exact ⟨rfl, rfl⟩

/-- binary.Uvarint over bytes that begin with the uvarint of v. -/
theorem uvarint_any (g off n c v : Nat) (w : World) (hv : v < 2097152) (hn : (uv v).length ≤ n) (hn2 : n ≤ 4294967296) (hc : ∀ j, j < (uv v).length → w.cell? ⟨g, off + j, none⟩ = some (.int .u8 ((uv v).getD j 0))) :
    Calls Try.prog 10 #[.slice (some ⟨g, off, none⟩) n c] w fun e w' => UvPost v (uv v).length w e w' := by
  by_cases h1 : v < 128
  · have e := uv_small v h1
    rw [e] at hn hc ⊢
    exact uv1 g off n c v w h1 (by simpa using hn) hn2 (by simpa using hc 0 (by simp))
  · by_cases h2 : v < 16384
    · have e : uv v = [((v % 128 + 128 : Nat) : Int), ((v / 128 : Nat) : Int)] := by unfold uv; rw [if_neg h1, if_pos h2]
      rw [e] at hn hc ⊢
      exact uv2 g off n c v w (by omega) h2 (by simpa using hn) hn2 (by simpa using hc 0 (by simp)) (by simpa using hc 1 (by simp))
    · have e : uv v = [((v % 128 + 128 : Nat) : Int), ((v / 128 % 128 + 128 : Nat) : Int), ((v / 16384 : Nat) : Int)] := by unfold uv; rw [if_neg h1, if_neg h2]
      rw [e] at hn hc ⊢
      exact uv3 g off n c v w (by omega) hv (by simpa using hn) hn2 (by simpa using hc 0 (by simp)) (by simpa using hc 1 (by simp)) (by simpa using hc 2 (by simp))
end Go.Proofs.Qxb6630788a
