import Derived.Test.Qxb6630883aMem
namespace Go.Proofs.Qxb6630883a
open Go.RowKit

structure BoolPost (w : World) (e : Ending) (w' : World) : Prop where
  ret : ∃ bl, e = .returned (.bool bl)
  same : w' = w

set_option maxRecDepth 100000 in
set_option maxHeartbeats 2000000 in
theorem bytes5_any (a : Option Addr) (n c : Nat) (fs : Nat → F4) (u : Value) (w : World) (h : FsAt w a n fs) :
    Calls Try.prog 5 #[.slice a n c, u] w fun e w' => BoolPost w e w' := by
  go_enter Try.func5, Try.ntmps5
  go_wp2
  all_goals first
    | (go_ret; exact ⟨⟨_, rfl⟩, rfl⟩)
    | skip
  go_loopg [5, 6] n (fun q z i wr => (∃ k : Nat, k + q = n ∧ i = .int .i64 k) ∧ (∃ y : Int, z = .int .i64 y) ∧ wr = w)
  case atStart => exact ⟨⟨0, by omega, rfl⟩, ⟨_, rfl⟩, rfl⟩
  case round =>
    obtain ⟨⟨k, hk, rfl⟩, ⟨y, rfl⟩, hw⟩ := hrel
    subst wr
    by_cases hlt : k < n
    · obtain ⟨b, o, hx, hc⟩ := h (by omega)
      cases hx
      obtain ⟨c0, c1, c2, c3⟩ := hc k hlt
      clear hc
      go_wp2
      all_goals first
        | (go_ret; exact ⟨⟨_, rfl⟩, rfl⟩)
        | (go_roundg (n - (k + 1))
           case measure => omega
           case rel => exact ⟨⟨k + 1, by omega, by go_num⟩, ⟨_, rfl⟩, rfl⟩)
    · obtain rfl : k = n := by omega
      clear hlt hk
      go_wp2
      go_ret
      exact ⟨⟨_, rfl⟩, rfl⟩

set_option maxRecDepth 100000 in
set_option maxHeartbeats 2000000 in
theorem bytes9_any (a : Option Addr) (n c : Nat) (fs : Nat → F4) (u v : Value) (s1 s2 s3 : ByteArray) (w : World) (h : FsAt w a n fs) :
    Calls Try.prog 9 #[.slice a n c, u, v, .string s1, .string s2, .string s3] w fun e w' => BoolPost w e w' := by
  go_enter Try.func9, Try.ntmps9
  go_wp2
  all_goals first
    | (go_ret; exact ⟨⟨_, rfl⟩, rfl⟩)
    | skip
  go_loopg [13, 14] n (fun q z i wr => (∃ k : Nat, k + q = n ∧ i = .int .i64 k) ∧ (∃ y : Int, z = .int .i64 y) ∧ wr = w)
  case atStart => exact ⟨⟨0, by omega, rfl⟩, ⟨_, rfl⟩, rfl⟩
  case round =>
    obtain ⟨⟨k, hk, rfl⟩, ⟨y, rfl⟩, hw⟩ := hrel
    subst wr
    by_cases hlt : k < n
    · obtain ⟨b, o, hx, hc⟩ := h (by omega)
      cases hx
      obtain ⟨c0, c1, c2, c3⟩ := hc k hlt
      clear hc
      go_wp2
      all_goals first
        | (go_ret; exact ⟨⟨_, rfl⟩, rfl⟩)
        | (go_roundg (n - (k + 1))
           case measure => omega
           case rel => exact ⟨⟨k + 1, by omega, by go_num⟩, ⟨_, rfl⟩, rfl⟩)
    · obtain rfl : k = n := by omega
      clear hlt hk
      go_wp2
      all_goals (go_ret; exact ⟨⟨_, rfl⟩, rfl⟩)
end Go.Proofs.Qxb6630883a
