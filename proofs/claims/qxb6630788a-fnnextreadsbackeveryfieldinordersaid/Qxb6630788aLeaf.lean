import Derived.Test.Qxb6630788aMem
namespace Go.Proofs.Qxb6630788a
open Go.RowKit

/-- A slice told by its elements; where it is empty nothing is known of its address. -/
def SliceOf (w : World) (a : Option Addr) (n : Nat) (f : Nat → Value) : Prop := 0 < n → ∃ b o, a = some ⟨b, o, none⟩ ∧ ∀ i, i < n → w.cell? ⟨b, o + i, none⟩ = some (f i)
def SamePost (w : World) (e : Ending) (w' : World) : Prop := e = .returned (.bool true) ∧ ∃ m, w' = w.drewN m

set_option maxHeartbeats 400000 in
theorem same_any (a b : Option Addr) (n ca cb : Nat) (f : Nat → Int) (w : World) (hn : n ≤ 9223372036854775807) (ha : SliceOf w a n (fun i => .int .u8 (f i))) (hb : SliceOf w b n (fun i => .int .u8 (f i))) :
    Calls Try.prog 8 #[.slice a n ca, .slice b n cb] w fun e w' => SamePost w e w' := by
  go_enter Try.func8, Try.ntmps8
  go_wp2
  go_loopw [5] (fun i wr => ∃ k : Nat, k ≤ n ∧ i = .int .i64 k ∧ ∃ m, wr = w.drewN m) (fun i _ => n - (intOf i).toNat)
  case atStart => exact ⟨0, Nat.zero_le _, rfl, 0, rfl⟩
  case round =>
    obtain ⟨k, hk, rfl, m, rfl⟩ := hrel
    by_cases hlt : k < n
    · obtain ⟨b1, o1, rfl, h1⟩ := ha (by omega)
      obtain ⟨b2, o2, rfl, h2⟩ := hb (by omega)
      have c1 := h1 k hlt
      have c2 := h2 k hlt
      have d1 : (0 : Int) ≤ (k : Int) := by omega
      have d2 : (k : Int) < (n : Int) := by omega
      clear h1 h2 ha hb
      go_wp2
      go_quiet (fail)
      go_wp2
      go_roundw
      case rel => exact ⟨k + 1, by omega, by go_num, _, rfl⟩
      case measure => simp [intOf]; omega
    · clear ha hb
      go_wp2
      go_ret
      exact ⟨rfl, _, rfl⟩

theorem bytes5 (a b : Option Addr) (n m ca cb : Nat) (w : World) (hn : n ≤ 9223372036854775807) (hm : m ≤ 9223372036854775807) :
    Calls Try.prog 5 #[.slice a n ca, .slice b m cb] w fun e w' => e = .returned (.bool (decide (n + m ≤ 1048576))) ∧ w' = w := by
  by_cases h1 : n ≤ 1048576
  · by_cases h2 : m ≤ 1048576
    · by_cases h3 : n + m ≤ 1048576
      · have hd : decide (n + m ≤ 1048576) = true := decide_eq_true h3
        rw [hd]
        clear hd
        go_enter Try.func5, Try.ntmps5
        go_wp2
        go_ret
        exact ⟨rfl, rfl⟩
      · have hd : decide (n + m ≤ 1048576) = false := decide_eq_false h3
        rw [hd]
        clear hd
        go_enter Try.func5, Try.ntmps5
        go_wp2
        go_ret
        exact ⟨rfl, rfl⟩
    · have hd : decide (n + m ≤ 1048576) = false := decide_eq_false (by omega)
      rw [hd]
      clear hd
      go_enter Try.func5, Try.ntmps5
      go_wp2
      go_ret
      exact ⟨rfl, rfl⟩
  · have hd : decide (n + m ≤ 1048576) = false := decide_eq_false (by omega)
    rw [hd]
    clear hd
    go_enter Try.func5, Try.ntmps5
    go_wp2
    go_ret
    exact ⟨rfl, rfl⟩

/-! ### The uvarint of a number below 2^21 -/
def uv (v : Nat) : List Int :=
  if v < 128 then [(v : Int)] else if v < 16384 then [((v % 128 + 128 : Nat) : Int), ((v / 128 : Nat) : Int)]
  else [((v % 128 + 128 : Nat) : Int), ((v / 128 % 128 + 128 : Nat) : Int), ((v / 16384 : Nat) : Int)]
theorem uv_small (v : Nat) (h : v < 128) : uv v = [(v : Int)] := by simp [uv, h]
theorem uv_step (v : Nat) (h : 128 ≤ v) (_h2 : v < 2097152) : uv v = ((v % 128 + 128 : Nat) : Int) :: uv (v / 128) := by
  unfold uv
  by_cases h1 : v < 16384
  · rw [if_neg (by omega), if_pos h1, if_pos (by omega)]
  · rw [if_neg (by omega), if_neg h1, if_neg (by omega), if_pos (by omega), Nat.div_div_eq_div_mul]
theorem uv_len (v : Nat) : 1 ≤ (uv v).length ∧ (uv v).length ≤ 3 := by
  unfold uv
  split
  · simp
  · split <;> simp

end Go.Proofs.Qxb6630788a
