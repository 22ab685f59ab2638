import Derived.Test.Qxb6630756aRows
import Derived.WalkKit
import Derived.WalkSpells
import Derived.WalkLawsBesides
namespace Go.Proofs.Qxb6630756a
open Go.RowKit

theorem bytes_any (a : Option Addr) (n c : Nat) (h : Int) (r : Int) (w : World) (hn : n ≤ maxLen) :
    Calls Try.prog 12 #[.slice a n c, .int .i64 h, .int .i32 r] w fun e w' => e = .returned (.bool (decide (n ≤ 1048576))) ∧ w' = w := by
  unfold maxLen at hn
  by_cases hb : n ≤ 1048576
  · have h1 : ¬ (1048576 : Int) < (n : Int) := by omega
    go_enter Try.func12, Try.ntmps12
    go_wp2
    go_ret
    exact ⟨by simp, rfl⟩
  · have h1 : (1048576 : Int) < (n : Int) := by omega
    go_enter Try.func12, Try.ntmps12
    go_wp2
    go_ret
    exact ⟨by simp [hb], rfl⟩

def RowAt (w : World) (b off : Nat) (zs : List Int) : Prop := ∀ i, i < zs.length → w.cell? ⟨b, off + i, none⟩ = some (.int .i64 (zs.getD i 0))

def sumL (l : List Int) : Int := l.foldr (· + ·) 0
theorem sumL_append (a b : List Int) : sumL (a ++ b) = sumL a + sumL b := by
  induction a with
  | nil => simp [sumL]
  | cons x r ih => simp [sumL] at *; omega

theorem take_snoc (l : List Int) (k : Nat) (h : k < l.length) : l.take (k + 1) = l.take k ++ [l.getD k 0] := by
  rw [List.take_succ_eq_append_getElem h]; simp [List.getD, List.getElem?_eq_getElem h]

def OkPow (l : List Int) : Prop := (∀ z ∈ l, 1 ≤ z) ∧ sumL l ≤ 65536

theorem okPow_snoc (l : List Int) (k : Nat) (h : k < l.length) (ho : OkPow (l.take k)) (h1 : 1 ≤ l.getD k 0) (h2 : sumL (l.take k) + l.getD k 0 ≤ 65536) : OkPow (l.take (k+1)) ∧ sumL (l.take (k+1)) = sumL (l.take k) + l.getD k 0 := by
  rw [take_snoc l k h]
  have e : sumL (l.take k ++ [l.getD k 0]) = sumL (l.take k) + l.getD k 0 := by rw [sumL_append]; simp [sumL]
  refine ⟨⟨?_, by omega⟩, e⟩
  intro z hz
  rcases List.mem_append.1 hz with hz | hz
  · exact ho.1 z hz
  · simp only [List.mem_singleton] at hz; omega

theorem sumL_nonneg (l : List Int) (h : ∀ z ∈ l, 1 ≤ z) : 0 ≤ sumL l := by
  induction l with
  | nil => simp [sumL]
  | cons x r ih =>
    have h1 := h x (by simp)
    have h2 := ih (fun z hz => h z (by simp [hz]))
    simp [sumL] at *; omega

def TotPost (zs : List Int) (w : World) (e : Ending) (w' : World) : Prop := ∃ t ok, e = .returned (.tuple #[.int .i64 t, .bool ok]) ∧ w' = w ∧ (ok = true → 0 < zs.length ∧ t = sumL zs ∧ OkPow zs)
theorem totPost_no (zs : List Int) (w : World) : TotPost zs w (.returned (.tuple #[.int .i64 0, .bool false])) w := ⟨0, false, rfl, rfl, by simp⟩

set_option maxHeartbeats 400000 in
theorem total_some (b off c : Nat) (zs : List Int) (w : World) (hn : zs.length ≤ maxLen) (hp : 0 < zs.length) (hr : RowAt w b off zs) :
    Calls Try.prog 6 #[.slice (some ⟨b, off, none⟩) zs.length c] w fun e w' => TotPost zs w e w' := by
  unfold maxLen at hn
  have h0 : ((zs.length : Int) == 0) = false := by simp only [beq_eq_false_iff_ne, ne_eq]; omega
  go_enter Try.func6, Try.ntmps6
  go_wp2
  go_loop [4, 5] (fun t i => ∃ k : Nat, k ≤ zs.length ∧ i = .int .i64 k ∧ t = .int .i64 (sumL (zs.take k)) ∧ OkPow (zs.take k)) (fun _ i => zs.length - (intOf i).toNat)
  case atStart => exact ⟨0, Nat.zero_le _, rfl, rfl, by simp, by simp [sumL]⟩
  case round =>
    obtain ⟨k, hk, rfl, rfl, ho⟩ := hrel
    have hs := sumL_nonneg _ ho.1
    have hs2 := ho.2
    by_cases hlt : k < zs.length
    · have hcell := hr k hlt
      have HO : Hid (OkPow (zs.take k)) := ho
      have HS : 1 ≤ zs[k] → sumL (zs.take k) + zs[k] ≤ 65536 → Hid (OkPow (zs.take (k+1)) ∧ sumL (zs.take (k+1)) = sumL (zs.take k) + zs[k]) := by
        intro h1 h2
        have := okPow_snoc zs k hlt ho (by simpa [List.getD, List.getElem?_eq_getElem hlt] using h1) (by simpa [List.getD, List.getElem?_eq_getElem hlt] using h2)
        unfold Hid
        simpa [List.getD, List.getElem?_eq_getElem hlt] using this
      clear ho
      go_wp2
      all_goals first
        | (go_ret2; exact totPost_no zs w)
        | skip
      go_round
      case rel =>
        have R := (HS (by assumption) (by assumption)).out
        exact ⟨k + 1, by omega, by go_num, by rw [R.2], R.1⟩
      case measure => simp [intOf]; omega
    · have hkn : k = zs.length := by omega
      go_wp2
      go_ret2
      exact ⟨_, true, rfl, rfl, fun _ => ⟨hp, rfl, by rw [hkn] at ho; simpa using ho⟩⟩

theorem total_none (c : Nat) (a : Option Addr) (w : World) :
    Calls Try.prog 6 #[.slice a 0 c] w fun e w' => TotPost [] w e w' := by
  go_enter Try.func6, Try.ntmps6
  go_wp2
  go_ret2
  exact totPost_no [] w

end Go.Proofs.Qxb6630756a
