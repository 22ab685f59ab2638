import Derived.Test.Qxb6630788aOne
namespace Go.Proofs.Qxb6630788a
open Go.RowKit

/-! ### The plain lists -/
def cat (fl : Nat → List Int) : Nat → List Int
  | 0 => []
  | k + 1 => cat fl k ++ (uv (fl k).length ++ fl k)
def tot (fl : Nat → List Int) : Nat → Nat
  | 0 => 0
  | k + 1 => tot fl k + (24 + (fl k).length)
theorem cat_le (fl : Nat → List Int) : ∀ k, (cat fl k).length + 21 * k ≤ tot fl k
  | 0 => by simp [cat, tot]
  | k + 1 => by
    have := cat_le fl k
    have := uv_len (fl k).length
    simp only [cat, tot, List.length_append]; omega
theorem tot_mono (fl : Nat → List Int) (k : Nat) : ∀ d, tot fl k ≤ tot fl (k + d)
  | 0 => Nat.le_refl _
  | d + 1 => by have := tot_mono fl k d; rw [← Nat.add_assoc, tot]; omega
theorem cat_split (fl : Nat → List Int) (k : Nat) : ∀ d, ∃ rest, cat fl (k + 1 + d) = cat fl k ++ (uv (fl k).length ++ fl k) ++ rest
  | 0 => ⟨[], by simp [cat]⟩
  | d + 1 => by
    obtain ⟨r, hr⟩ := cat_split fl k d
    exact ⟨r ++ (uv (fl (k + 1 + d)).length ++ fl (k + 1 + d)), by rw [← Nat.add_assoc, cat, hr]; simp⟩

/-- The fields that came in. -/
def FieldsAt (w : World) (a : Option Addr) (n : Nat) (fa : Nat → Option Addr) (fl : Nat → List Int) (fc : Nat → Nat) : Prop :=
  SliceOf w a n (fun i => .slice (fa i) (fl i).length (fc i)) ∧ ∀ i, i < n → BytesAt w (fa i) (fl i) ∧ (fl i).length ≤ 9223372036854775807

structure BytesPost (n : Nat) (fl : Nat → List Int) (w : World) (e : Ending) (w' : World) : Prop where
  ex : ∃ bl, e = .returned (.bool bl) ∧ w' = w ∧ (bl = true → ∀ i, i < n → (fl i).length ≤ 1048576)

set_option maxRecDepth 100000 in
set_option maxHeartbeats 1000000 in
theorem bytes9 (a : Option Addr) (n c : Nat) (fa : Nat → Option Addr) (fl : Nat → List Int) (fc : Nat → Nat) (w : World) (hn : n ≤ 9223372036854775807) (hf : FieldsAt w a n fa fl fc) :
    Calls Try.prog 9 #[.slice a n c] w fun e w' => BytesPost n fl w e w' := by
  by_cases hb : (1048576 : Int) < (n : Int)
  · go_enter Try.func9, Try.ntmps9
    go_wp2
    go_ret
    exact ⟨_, rfl, rfl, by simp⟩
  · go_enter Try.func9, Try.ntmps9
    go_wp2
    go_loop [3, 4] (fun z i => ∃ k : Nat, k ≤ n ∧ i = .int .i64 k ∧ (∃ q : Int, 0 ≤ q ∧ q ≤ 1048576 ∧ z = .int .i64 q) ∧ Hid (∀ i, i < k → (fl i).length ≤ 1048576)) (fun _ i => n - (intOf i).toNat)
    case atStart => exact ⟨0, Nat.zero_le _, rfl, ⟨_, by omega, by omega, rfl⟩, fun i hi => absurd hi (by omega)⟩
    case round =>
      obtain ⟨k, hk, rfl, ⟨q, hq0, hq1, rfl⟩, HG⟩ := hrel
      by_cases hlt : k < n
      · obtain ⟨b, o, rfl, hc⟩ := hf.1 (by omega)
        have hck := hc k hlt
        have hlk := (hf.2 k hlt).2
        clear hc hf
        by_cases hbig : (1048576 : Int) < ((fl k).length : Int)
        · go_wp2
          go_ret
          exact ⟨_, rfl, rfl, by simp⟩
        · by_cases hsum : (1048576 : Int) < q + ((fl k).length : Int)
          · go_wp2
            go_ret
            exact ⟨_, rfl, rfl, by simp⟩
          · go_wp2
            go_round
            case rel =>
              refine ⟨k + 1, by omega, by go_num, ⟨_, by omega, by omega, rfl⟩, fun i hi => ?_⟩
              by_cases e : i = k
              · subst e; omega
              · exact HG.out i (by omega)
            case measure => simp [intOf]; omega
      · obtain rfl : k = n := by omega
        clear hf
        go_wp2
        all_goals (go_ret; exact ⟨_, rfl, rfl, fun _ => HG.out⟩)
end Go.Proofs.Qxb6630788a
