import Derived.Test.Qxb6630756aScrW
namespace Go.Proofs.Qxb6630756a
open Go.RowKit Plain

set_option maxRecDepth 100000 in
set_option maxHeartbeats 1000000 in
theorem scr_long (a0 a1 a2 a3 : Option Addr) (n0 n1 n2 n3 c0 c1 c2 c3 : Nat) (nm : Nat → ByteArray) (w : World) (h0 : n0 ≤ maxLen) (h1 : n1 ≤ maxLen) (h2 : n2 ≤ maxLen) (h3 : n3 ≤ maxLen) (hs : SliceOf w a0 n0 (fun i => .string (nm i)))
    (hl : 4096 < n0 ∨ 4096 < n1 ∨ 4096 < n2 ∨ 4096 < n3) :
    Calls Try.prog 3 #[.slice a0 n0 c0, .slice a1 n1 c1, .slice a2 n2 c2, .slice a3 n3 c3] w fun e w' => LawPost w e w' := by
  go_enter Try.func3, Try.ntmps3
  go_wp2_with fail
  refine (bytes5 _ _ _ _ _ _ _ _ _ _ _ _ nm _ h0 h1 h2 h3 hs).mono ?_
  rintro e w1 ⟨bl, rfl, hw1⟩
  subst w1
  clear hs
  unfold maxLen at h0 h1 h2 h3
  cases bl
  case false =>
    go_wp2_with fail
    go_ret
    exact lawPost_same w
  case true =>
    go_wp2_with fail
    all_goals (go_ret; exact lawPost_same w)

set_option maxRecDepth 100000 in
set_option maxHeartbeats 1000000 in
theorem scr_short (a0 a1 a2 a3 : Option Addr) (n0 n1 n2 n3 c0 c1 c2 c3 : Nat) (nm : Nat → ByteArray) (w : World) (h0 : n0 ≤ 4096) (h1 : n1 ≤ 4096) (h2 : n2 ≤ 4096) (h3 : n3 ≤ 4096) (hs : SliceOf w a0 n0 (fun i => .string (nm i)))
    (hl : n0 ≠ n1 ∨ n2 ≠ n3 ∨ n1 = 0) :
    Calls Try.prog 3 #[.slice a0 n0 c0, .slice a1 n1 c1, .slice a2 n2 c2, .slice a3 n3 c3] w fun e w' => LawPost w e w' := by
  have HL : Hid (n0 ≠ n1 ∨ n2 ≠ n3 ∨ n1 = 0) := hl
  clear hl
  go_enter Try.func3, Try.ntmps3
  go_wp2_with fail
  refine (bytes5 _ _ _ _ _ _ _ _ _ _ _ _ nm _ (by unfold maxLen; omega) (by unfold maxLen; omega) (by unfold maxLen; omega) (by unfold maxLen; omega) hs).mono ?_
  rintro e w1 ⟨bl, rfl, hw1⟩
  subst w1
  cases bl
  case false =>
    go_wp2_with fail
    go_ret
    exact lawPost_same w
  case true =>
    go_wp2_with fail
    go_loop [9, 10] (fun z i => ∃ k : Nat, k ≤ n0 ∧ i = .int .i64 k ∧ ∃ q : Int, z = .int .i64 q) (fun _ i => n0 - (intOf i).toNat)
    case atStart => exact ⟨0, Nat.zero_le _, rfl, _, rfl⟩
    case round =>
      obtain ⟨k, hk, rfl, q, rfl⟩ := hrel
      by_cases hlt : k < n0
      · obtain ⟨b0, o0, rfl, hnm⟩ := hs (by omega)
        have hck := hnm k hlt
        clear hnm
        by_cases hbig : 1048576 < wrap64 (q + wrap64 (16 + ((nm k).size : Int)))
        · go_wp2_with fail
          go_ret
          exact lawPost_same w
        · go_wp2_with fail
          go_round
          case rel => exact ⟨k + 1, by omega, by go_num, _, rfl⟩
          case measure => simp [intOf]; omega
      · clear hs
        by_cases e1 : n0 = n1
        · subst e1
          by_cases e2 : n2 = n3
          · subst e2
            obtain rfl : n0 = 0 := by have := HL.out; omega
            go_wp2_with (go_at_call 6; refine (total_none _ _ _).mono ?_; rintro e w1 ⟨t, ok, rfl, hw1, hok⟩; subst w1; obtain rfl : ok = false := by (cases ok; rfl; exact absurd (hok rfl).1 (by simp)))
            go_ret
            exact lawPost_same w
          · have h2n := ne_of_len e2
            go_wp2_with fail
            go_ret
            exact lawPost_same w
        · have h1n := ne_of_len e1
          go_wp2_with fail
          go_ret
          exact lawPost_same w
end Go.Proofs.Qxb6630756a
