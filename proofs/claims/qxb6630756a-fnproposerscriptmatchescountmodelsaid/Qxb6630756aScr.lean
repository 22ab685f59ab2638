import Derived.Test.Qxb6630756aSeq
namespace Go.Proofs.Qxb6630756a
open Go.RowKit Plain

/-- A slice that came in, told by its elements; where it is empty nothing is known of its address. -/
def SliceOf (w : World) (a : Option Addr) (n : Nat) (f : Nat → Value) : Prop := 0 < n → ∃ b o, a = some ⟨b, o, none⟩ ∧ ∀ i, i < n → w.cell? ⟨b, o + i, none⟩ = some (f i)
def BoolPost (w : World) (e : Ending) (w' : World) : Prop := ∃ bl, e = .returned (.bool bl) ∧ w' = w

set_option maxHeartbeats 1000000 in
theorem bytes5 (a0 a1 a2 a3 : Option Addr) (n0 n1 n2 n3 c0 c1 c2 c3 : Nat) (nm : Nat → ByteArray) (w : World) (h0 : n0 ≤ maxLen) (h1 : n1 ≤ maxLen) (h2 : n2 ≤ maxLen) (h3 : n3 ≤ maxLen) (hs : SliceOf w a0 n0 (fun i => .string (nm i))) :
    Calls Try.prog 5 #[.slice a0 n0 c0, .slice a1 n1 c1, .slice a2 n2 c2, .slice a3 n3 c3] w fun e w' => BoolPost w e w' := by
  unfold maxLen at h0 h1 h2 h3
  by_cases hb : (1048576 : Int) < (n0 : Int)
  · go_enter Try.func5, Try.ntmps5
    go_wp2
    go_ret
    exact ⟨_, rfl, rfl⟩
  · go_enter Try.func5, Try.ntmps5
    go_wp2
    go_loop [9, 10] (fun z i => ∃ k : Nat, k ≤ n0 ∧ i = .int .i64 k ∧ ∃ q : Int, 0 ≤ q ∧ q ≤ 1048576 ∧ z = .int .i64 q) (fun _ i => n0 - (intOf i).toNat)
    case atStart => exact ⟨0, Nat.zero_le _, rfl, _, by omega, by omega, rfl⟩
    case round =>
      obtain ⟨k, hk, rfl, q, hq0, hq1, rfl⟩ := hrel
      by_cases hlt : k < n0
      · obtain ⟨b, o, rfl, hc⟩ := hs (by omega)
        have hck := hc k hlt
        clear hc
        by_cases hbig : (1048576 : Int) < ((nm k).size : Int)
        · go_wp2
          go_ret
          exact ⟨_, rfl, rfl⟩
        · by_cases hsum : (1048576 : Int) < q + ((nm k).size : Int)
          · go_wp2
            go_ret
            exact ⟨_, rfl, rfl⟩
          · go_wp2
            go_round
            case rel => exact ⟨k + 1, by omega, by go_num, _, by omega, by omega, rfl⟩
            case measure => simp [intOf]; omega
      · clear hs
        go_wp2
        all_goals (go_ret; exact ⟨_, rfl, rfl⟩)
end Go.Proofs.Qxb6630756a
