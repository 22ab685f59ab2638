import Derived.Test.Qxb6630788aUv
namespace Go.Proofs.Qxb6630788a
open Go.RowKit

/-- What Next leaves: the field, and the variable moved on behind it. (A slice of capacity 0 keeps the base's address.) -/
structure NextPost (fb g off n c k v : Nat) (w : World) (e : Ending) (w' : World) : Prop where
  ex : ∃ A B : Addr, e = .returned (.slice (some A) v v) ∧ (0 < v → A = ⟨g, off + k, none⟩) ∧ w' = w.setCell ⟨fb, 0, none⟩ (.slice (some B) (n - (k + v)) (c - (k + v))) ∧ (k + v < c → B = ⟨g, off + (k + v), none⟩)

theorem ret_slice {A : Option Addr} {a b c d : Nat} (h : a = c) (h2 : b = d) : Ending.returned (.slice A a b) = .returned (.slice A c d) := by rw [h, h2]

set_option maxRecDepth 100000 in
set_option maxHeartbeats 1000000 in
theorem next_any (fb g off n c v : Nat) (w : World) (hv : v < 2097152) (hkv : (uv v).length + v ≤ n) (hnc : n ≤ c) (hc : c ≤ 4294967296) (hf : w.cell? ⟨fb, 0, none⟩ = some (.slice (some ⟨g, off, none⟩) n c)) (hz : w.frozen? ⟨fb, 0, none⟩ = false)
    (hcell : ∀ j, j < (uv v).length → w.cell? ⟨g, off + j, none⟩ = some (.int .u8 ((uv v).getD j 0))) :
    Calls Try.prog 7 #[.pointer (some ⟨fb, 0, none⟩)] w fun e w' => NextPost fb g off n c (uv v).length v w e w' := by
  obtain ⟨k1, k3⟩ := uv_len v
  have HU := uvarint_any g off n c v w hv (by omega) (by omega) hcell
  generalize hk : (uv v).length = k at *
  clear hcell hk
  by_cases h0 : v = 0
  · subst h0
    by_cases hce : c = k
    · subst hce
      obtain rfl : n = c := by omega
      go_enter Try.func7, Try.ntmps7
      go_wp2_with (go_at_call 10; refine HU.mono ?_; rintro e w1 ⟨rfl, hw1⟩; subst w1)
      go_ret
      exact ⟨⟨g, off, none⟩, ⟨g, off, none⟩, rfl, fun h => absurd h (by omega), by simp, fun h => absurd h (by omega)⟩
    · go_enter Try.func7, Try.ntmps7
      go_wp2_with (go_at_call 10; refine HU.mono ?_; rintro e w1 ⟨rfl, hw1⟩; subst w1)
      go_ret
      exact ⟨_, _, rfl, fun h => absurd h (by omega), rfl, fun _ => rfl⟩
  · by_cases hce : c = k + v
    · subst hce
      obtain rfl : n = k + v := by omega
      go_enter Try.func7, Try.ntmps7
      go_wp2_with (go_at_call 10; refine HU.mono ?_; rintro e w1 ⟨rfl, hw1⟩; subst w1)
      go_ret
      exact ⟨⟨g, off + k, none⟩, ⟨g, off, none⟩, ret_slice (by omega) (by omega), fun _ => rfl, by simp, fun h => absurd h (by omega)⟩
    · go_enter Try.func7, Try.ntmps7
      go_wp2_with (go_at_call 10; refine HU.mono ?_; rintro e w1 ⟨rfl, hw1⟩; subst w1)
      go_ret
      exact ⟨⟨g, off + k, none⟩, ⟨g, off + (k + v), none⟩, ret_slice (by omega) (by omega), fun _ => rfl, rfl, fun _ => rfl⟩
end Go.Proofs.Qxb6630788a
