import Derived.Test.Qxb6630883aMem
namespace Go.Proofs.Qxb6630883a
open Go.RowKit

theorem ret_bool {a b : Bool} (h : a = b) : Ending.returned (.bool a) = .returned (.bool b) := by rw [h]
structure ConfPost (n : Nat) (fs : Nat → F4) (w : World) (e : Ending) (w' : World) : Prop where
  ret : e = .returned (.bool (conf fs n))
  below : Below w.heap.size w w'

set_option maxRecDepth 100000 in
set_option maxHeartbeats 1000000 in
theorem conf_any (a : Option Addr) (n c : Nat) (fs : Nat → F4) (w : World) (hn : n ≤ 9223372036854775807) (h : FsAt w a n fs) :
    Calls Try.prog 8 #[.slice a n c] w fun e w' => ConfPost n fs w e w' := by
  go_enter Try.func8, Try.ntmps8
  go_wp2
  go_loopg [7] n (fun q i wr => ∃ k : Nat, k + q = n ∧ i = .int .i64 k ∧ Hid (conf fs k = true) ∧ Below w.heap.size w wr)
  case atStart => exact ⟨0, by omega, rfl, rfl, Below.refl _ _⟩
  case round =>
    obtain ⟨k, hk, rfl, HG, hb⟩ := hrel
    by_cases hlt : k < n
    · obtain ⟨b, o, rfl, hc⟩ := h.grow hb (Nat.le_refl _) (by omega)
      obtain ⟨c0, c1, c2, c3⟩ := hc k hlt
      clear hc
      cases he : ((fs k).sev.toList == [101, 114, 114, 111, 114])
      · have HE : Hid (conf fs (k + 1) = true) := by unfold Hid; rw [conf, HG.out, isErr, he]; rfl
        go_wp2
        go_roundg (n - (k + 1))
        case rel => exact ⟨k + 1, by omega, by go_num, HE, hb.alloc hb.size _⟩
        case measure => omega
      · have HE : Hid (conf fs n = false) := by
          have h1 : conf fs (k + 1) = false := by rw [conf, isErr, he]; simp
          have := conf_mono fs (k + 1) h1 (n - (k + 1))
          rwa [show k + 1 + (n - (k + 1)) = n by omega] at this
        go_wp2
        go_ret
        exact ⟨ret_bool HE.out.symm, hb.alloc hb.size _⟩
    · obtain rfl : k = n := by omega
      clear h
      go_wp2
      go_ret
      exact ⟨ret_bool HG.out.symm, hb⟩

def SizePost (w : World) (e : Ending) (w' : World) : Prop := ∃ z m, e = .returned (.int .i64 z) ∧ w' = w.drewN m

set_option maxRecDepth 100000 in
set_option maxHeartbeats 1000000 in
theorem size_any (a : Option Addr) (n c : Nat) (fs : Nat → F4) (t : Int) (w : World) (hn : n ≤ 9223372036854775807) (h : FsAt w a n fs) :
    Calls Try.prog 6 #[.slice a n c, .int .i64 t] w fun e w' => SizePost w e w' := by
  go_enter Try.func6, Try.ntmps6
  go_wp2
  go_loopw [5, 6] (fun z i wr => ∃ k : Nat, k ≤ n ∧ i = .int .i64 k ∧ (∃ q : Int, z = .int .i64 q) ∧ ∃ m, wr = w.drewN m) (fun _ i _ => n - (intOf i).toNat)
  case atStart => exact ⟨0, Nat.zero_le _, rfl, ⟨_, rfl⟩, 0, rfl⟩
  case round =>
    obtain ⟨k, hk, rfl, ⟨q, rfl⟩, m, rfl⟩ := hrel
    by_cases hlt : k < n
    · obtain ⟨b, o, rfl, hc⟩ := h (by omega)
      obtain ⟨c0, c1, c2, c3⟩ := hc k hlt
      have i1 : (0 : Int) ≤ (k : Int) := by omega
      have i2 : (k : Int) < (n : Int) := by omega
      clear hc h
      go_wp2
      go_quiet (fail)
      go_wp2
      all_goals first
        | (go_ret; exact ⟨_, m + nq, rfl, by simp⟩)
        | (go_roundw
           case rel => exact ⟨k + 1, by omega, by go_num, ⟨_, rfl⟩, m + nq, by simp⟩
           case measure => simp [intOf]; omega)
    · clear h
      go_wp2
      go_ret
      exact ⟨_, _, rfl, rfl⟩
end Go.Proofs.Qxb6630883a
