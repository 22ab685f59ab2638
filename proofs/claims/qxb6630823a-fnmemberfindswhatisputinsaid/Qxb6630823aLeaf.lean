import Derived.Test.Qxb6630823aMem
namespace Go.Proofs.Qxb6630823a
open Go.RowKit

theorem hasB_mono (ms : Nat → M3) (id : ByteArray) (k : Nat) (h : hasB ms id k = true) : ∀ d, hasB ms id (k + d) = true
  | 0 => h
  | d + 1 => by rw [← Nat.add_assoc, hasB, hasB_mono ms id k h d]; rfl
theorem ret_bool {a b : Bool} (h : a = b) : Ending.returned (.bool a) = .returned (.bool b) := by rw [h]

set_option maxRecDepth 100000 in
set_option maxHeartbeats 1000000 in
theorem has_any (a : Option Addr) (n c : Nat) (ms : Nat → M3) (id : ByteArray) (w : World) (hn : n ≤ 9223372036854775807) (h : MemsAt w a n ms) :
    Calls Try.prog 8 #[.slice a n c, .string id] w fun e w' => e = .returned (.bool (hasB ms id n)) ∧ w' = w := by
  go_enter Try.func8, Try.ntmps8
  go_wp2
  go_loop [5] (fun i => ∃ k : Nat, k ≤ n ∧ i = .int .i64 k ∧ Hid (hasB ms id k = false)) (fun i => n - (intOf i).toNat)
  case atStart => exact ⟨0, Nat.zero_le _, rfl, rfl⟩
  case round =>
    obtain ⟨k, hk, rfl, HG⟩ := hrel
    by_cases hlt : k < n
    · obtain ⟨b, o, rfl, hc⟩ := h (by omega)
      obtain ⟨c0, c1, c2⟩ := hc k hlt
      clear hc h c1 c2
      cases he : ((ms k).id.toList == id.toList)
      · have HE : Hid (hasB ms id (k + 1) = false) := by unfold Hid; rw [hasB, HG.out, eqS, he]; rfl
        go_wp2
        go_round
        case rel => exact ⟨k + 1, by omega, by go_num, HE⟩
        case measure => simp [intOf]; omega
      · have HE : Hid (hasB ms id n = true) := by
          have h1 : hasB ms id (k + 1) = true := by rw [hasB, eqS, he]; simp
          have := hasB_mono ms id (k + 1) h1 (n - (k + 1))
          rwa [show k + 1 + (n - (k + 1)) = n by omega] at this
        go_wp2
        go_ret
        exact ⟨ret_bool HE.out.symm, rfl⟩
    · obtain rfl : k = n := by omega
      clear h
      go_wp2
      go_ret
      exact ⟨ret_bool HG.out.symm, rfl⟩

def SortPost (n : Nat) (ms : Nat → M3) (w : World) (e : Ending) (w' : World) : Prop := ∃ bl m, e = .returned (.bool bl) ∧ w' = w.drewN m ∧ (bl = true → Sorted ms n)

set_option maxRecDepth 100000 in
set_option maxHeartbeats 1000000 in
theorem sorted_any (a : Option Addr) (n c : Nat) (ms : Nat → M3) (w : World) (hn : n ≤ 9223372036854775807) (h : MemsAt w a n ms) :
    Calls Try.prog 7 #[.slice a n c] w fun e w' => SortPost n ms w e w' := by
  go_enter Try.func7, Try.ntmps7
  go_wp2
  go_loopw [3] (fun i wr => ∃ k : Nat, 1 ≤ k ∧ i = .int .i64 k ∧ (∃ m, wr = w.drewN m) ∧ Hid (∀ j, 1 ≤ j → j < k → ltS (ms j).id (ms (j - 1)).id = false)) (fun i _ => n - (intOf i).toNat)
  case atStart => exact ⟨1, by omega, rfl, ⟨0, rfl⟩, fun j h1 h2 => absurd h2 (by omega)⟩
  case round =>
    obtain ⟨k, hk, rfl, ⟨m, rfl⟩, HG⟩ := hrel
    by_cases hlt : k < n
    · obtain ⟨b, o, rfl, hc⟩ := h (by omega)
      obtain ⟨c0, _, _⟩ := hc k hlt
      obtain ⟨d0, _, _⟩ := hc (k - 1) (by omega)
      obtain ⟨q, rfl⟩ : ∃ q, k = q + 1 := ⟨k - 1, by omega⟩
      rw [show q + 1 - 1 = q by omega] at d0
      have i1 : (0 : Int) ≤ (q : Int) := by omega
      have i2 : (q : Int) + 1 < (n : Int) := by omega
      clear hc h
      cases he : Op.bytesLess (ms (q + 1)).id.toList (ms q).id.toList
      · have HE : Hid (∀ j, 1 ≤ j → j < q + 1 + 1 → ltS (ms j).id (ms (j - 1)).id = false) := fun j h1 h2 => by
          by_cases e : j = q + 1
          · subst e; exact he
          · exact HG.out j h1 (by omega)
        go_wp2
        go_quiet (fail)
        go_wp2
        go_roundw
        case rel => exact ⟨q + 1 + 1, by omega, by go_num, ⟨_, rfl⟩, HE⟩
        case measure => simp [intOf]; omega
      · go_wp2
        go_quiet (fail)
        go_wp2
        go_ret
        exact ⟨_, m + nq, rfl, by simp, by simp⟩
    · clear h
      go_wp2
      go_ret
      exact ⟨_, _, rfl, rfl, fun _ i h1 h2 => HG.out i h1 (by omega)⟩

def SizePost (w : World) (e : Ending) (w' : World) : Prop := ∃ z m, e = .returned (.int .i64 z) ∧ w' = w.drewN m

set_option maxRecDepth 100000 in
set_option maxHeartbeats 1000000 in
theorem size_any (a : Option Addr) (n c : Nat) (ms : Nat → M3) (t : Int) (w : World) (hn : n ≤ 9223372036854775807) (h : MemsAt w a n ms) :
    Calls Try.prog 6 #[.slice a n c, .int .i64 t] w fun e w' => SizePost w e w' := by
  go_enter Try.func6, Try.ntmps6
  go_wp2
  go_loopw [1, 5] (fun z i wr => ∃ k : Nat, k ≤ n ∧ i = .int .i64 k ∧ (∃ q : Int, z = .int .i64 q) ∧ ∃ m, wr = w.drewN m) (fun _ i _ => n - (intOf i).toNat)
  case atStart => exact ⟨0, Nat.zero_le _, rfl, ⟨_, rfl⟩, 0, rfl⟩
  case round =>
    obtain ⟨k, hk, rfl, ⟨q, rfl⟩, m, rfl⟩ := hrel
    by_cases hlt : k < n
    · obtain ⟨b, o, rfl, hc⟩ := h (by omega)
      obtain ⟨c0, c1, c2⟩ := hc k hlt
      have i1 : (0 : Int) ≤ (k : Int) := by omega
      have i2 : (k : Int) < (n : Int) := by omega
      clear hc h
      go_wp2
      all_goals first
        | (go_ret; exact ⟨_, _, rfl, rfl⟩)
        | skip
      go_quiet (fail)
      go_wp2
      all_goals first
        | (go_ret; exact ⟨_, m + nq, rfl, by simp⟩)
        | (go_roundw
           case rel => exact ⟨k + 1, by omega, by go_num, ⟨_, rfl⟩, m + nq, by simp⟩
           case measure => simp [intOf]; omega)
    · clear h
      go_wp2
      go_ret
      exact ⟨_, _, rfl, rfl⟩
end Go.Proofs.Qxb6630823a
