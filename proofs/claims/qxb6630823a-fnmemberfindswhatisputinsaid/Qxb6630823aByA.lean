import Derived.Test.Qxb6630823aMem
namespace Go.Proofs.Qxb6630823a
open Go.RowKit

structure BelowPost (w : World) (e : Ending) (w' : World) : Prop where
  ret : ∃ bl, e = .returned (.bool bl)
  below : Below w.heap.size w w'

set_option maxRecDepth 100000 in
set_option maxHeartbeats 4000000 in
theorem bytes5_any (u0 u1 u2 u3 : Value) (a1 a2 a3 a4 : Option Addr) (n1 n2 n3 n4 d1 d2 d3 d4 : Nat) (m1 m2 m3 m4 : Nat → M3) (nm : M3) (id : ByteArray) (w : World)
    (h1 : MemsAt w a1 n1 m1) (h2 : MemsAt w a2 n2 m2) (h3 : MemsAt w a3 n3 m3) (h4 : MemsAt w a4 n4 m4) :
    Calls Try.prog 5 #[u0, u1, u2, .slice a1 n1 d1, .slice a2 n2 d2, .slice a3 n3 d3, .slice a4 n4 d4, memV nm, u3, .string id] w fun e w' => BelowPost w e w' := by
  unfold memV
  have hb : Below w.heap.size w (w.alloc (Obj.cells #[.string nm.id, .string nm.peer, .string nm.client] 25)) := (Below.refl _ _).alloc (Nat.le_refl _) _
  have e0 : (w.alloc (Obj.cells #[.string nm.id, .string nm.peer, .string nm.client] 25)).cell? ⟨w.heap.size, 0, none⟩ = some (.string nm.id) := by rw [cell_of_row _ _ _ _ _ _ (Go.heap_alloc_new _ _)]; rfl
  have e1 : (w.alloc (Obj.cells #[.string nm.id, .string nm.peer, .string nm.client] 25)).cell? ⟨w.heap.size, 1, none⟩ = some (.string nm.peer) := by rw [cell_of_row _ _ _ _ _ _ (Go.heap_alloc_new _ _)]; rfl
  have e2 : (w.alloc (Obj.cells #[.string nm.id, .string nm.peer, .string nm.client] 25)).cell? ⟨w.heap.size, 2, none⟩ = some (.string nm.client) := by rw [cell_of_row _ _ _ _ _ _ (Go.heap_alloc_new _ _)]; rfl
  replace h1 := h1.grow hb (Nat.le_refl _)
  replace h2 := h2.grow hb (Nat.le_refl _)
  replace h3 := h3.grow hb (Nat.le_refl _)
  replace h4 := h4.grow hb (Nat.le_refl _)
  go_enter Try.func5, Try.ntmps5
  go_wp2
  all_goals first
    | (go_ret; exact ⟨⟨_, rfl⟩, hb⟩)
    | skip
  generalize w.alloc (Obj.cells #[.string nm.id, .string nm.peer, .string nm.client] 25) = W at *
  go_loopg [21, 22] n1 (fun q z i wr => (∃ k : Nat, k + q = n1 ∧ i = .int .i64 k) ∧ (∃ y : Int, z = .int .i64 y) ∧ wr = W)
  case atStart => exact ⟨⟨0, by omega, rfl⟩, ⟨_, rfl⟩, rfl⟩
  case round =>
    obtain ⟨⟨k, hk, rfl⟩, ⟨y, rfl⟩, hw⟩ := hrel
    subst wr
    by_cases hlt : k < n1
    · obtain ⟨b, o, hx, hc⟩ := h1 (by omega)
      cases hx
      obtain ⟨c0, c1, c2⟩ := hc k hlt
      clear hc
      go_wp2
      all_goals first
        | (go_ret; exact ⟨⟨_, rfl⟩, hb⟩)
        | (go_roundg (n1 - (k + 1))
           case measure => omega
           case rel => exact ⟨⟨k + 1, by omega, by go_num⟩, ⟨_, rfl⟩, rfl⟩)
    · obtain rfl : k = n1 := by omega
      clear hlt hk
      go_wp2
      all_goals first
        | (go_ret; exact ⟨⟨_, rfl⟩, hb⟩)
        | skip
      go_loopg [21, 23] n2 (fun q z i wr => (∃ k : Nat, k + q = n2 ∧ i = .int .i64 k) ∧ (∃ y : Int, z = .int .i64 y) ∧ wr = W)
      case atStart => exact ⟨⟨0, by omega, rfl⟩, ⟨_, rfl⟩, rfl⟩
      case round =>
        obtain ⟨⟨k, hk, rfl⟩, ⟨y, rfl⟩, hw⟩ := hrel
        subst wr
        by_cases hlt : k < n2
        · obtain ⟨b, o, hx, hc⟩ := h2 (by omega)
          cases hx
          obtain ⟨c0, c1, c2⟩ := hc k hlt
          clear hc
          go_wp2
          all_goals first
            | (go_ret; exact ⟨⟨_, rfl⟩, hb⟩)
            | (go_roundg (n2 - (k + 1))
               case measure => omega
               case rel => exact ⟨⟨k + 1, by omega, by go_num⟩, ⟨_, rfl⟩, rfl⟩)
        · obtain rfl : k = n2 := by omega
          clear hlt hk
          go_wp2
          all_goals first
            | (go_ret; exact ⟨⟨_, rfl⟩, hb⟩)
            | skip
          go_loopg [21, 24] n3 (fun q z i wr => (∃ k : Nat, k + q = n3 ∧ i = .int .i64 k) ∧ (∃ y : Int, z = .int .i64 y) ∧ wr = W)
          case atStart => exact ⟨⟨0, by omega, rfl⟩, ⟨_, rfl⟩, rfl⟩
          case round =>
            obtain ⟨⟨k, hk, rfl⟩, ⟨y, rfl⟩, hw⟩ := hrel
            subst wr
            by_cases hlt : k < n3
            · obtain ⟨b, o, hx, hc⟩ := h3 (by omega)
              cases hx
              obtain ⟨c0, c1, c2⟩ := hc k hlt
              clear hc
              go_wp2
              all_goals first
                | (go_ret; exact ⟨⟨_, rfl⟩, hb⟩)
                | (go_roundg (n3 - (k + 1))
                   case measure => omega
                   case rel => exact ⟨⟨k + 1, by omega, by go_num⟩, ⟨_, rfl⟩, rfl⟩)
            · obtain rfl : k = n3 := by omega
              clear hlt hk
              go_wp2
              all_goals first
                | (go_ret; exact ⟨⟨_, rfl⟩, hb⟩)
                | skip
              go_loopg [21, 25] n4 (fun q z i wr => (∃ k : Nat, k + q = n4 ∧ i = .int .i64 k) ∧ (∃ y : Int, z = .int .i64 y) ∧ wr = W)
              case atStart => exact ⟨⟨0, by omega, rfl⟩, ⟨_, rfl⟩, rfl⟩
              case round =>
                obtain ⟨⟨k, hk, rfl⟩, ⟨y, rfl⟩, hw⟩ := hrel
                subst wr
                by_cases hlt : k < n4
                · obtain ⟨b, o, hx, hc⟩ := h4 (by omega)
                  cases hx
                  obtain ⟨c0, c1, c2⟩ := hc k hlt
                  clear hc
                  go_wp2
                  all_goals first
                    | (go_ret; exact ⟨⟨_, rfl⟩, hb⟩)
                    | (go_roundg (n4 - (k + 1))
                       case measure => omega
                       case rel => exact ⟨⟨k + 1, by omega, by go_num⟩, ⟨_, rfl⟩, rfl⟩)
                · obtain rfl : k = n4 := by omega
                  clear hlt hk
                  go_wp2
                  all_goals first
                    | (go_ret; exact ⟨⟨_, rfl⟩, hb⟩)
                    | skip
end Go.Proofs.Qxb6630823a
