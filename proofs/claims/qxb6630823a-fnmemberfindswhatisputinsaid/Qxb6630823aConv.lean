import Derived.Test.Qxb6630823aLeaf
import Derived.Lib.SliceRun
namespace Go.Proofs.Qxb6630823a
open Go.RowKit

theorem Try.info37 : (Try.prog.info? 37).map (fun i => (i.zero, i.size, i.bytes)) = some (some (memV zero3), 3, 48) := by kernel_rfl
def rows0 (n : Nat) : Array Value := madeCells #[.string { data := #[] }, .string { data := #[] }, .string { data := #[] }] (n * 3)
theorem make32 (n : Nat) (hn : n ≤ 1048576) (c : Int) (hc : c = n) (w : World) :
    (Instr.makeSlice 32 (.int .i64 c) (.int .i64 c)).run Try.prog w = .ok (.slice (some ⟨w.heap.size, 0, none⟩) n n) (w.alloc (.cells (rows0 n) 37)) := by
  subst hc
  obtain ⟨i, hi, hzz⟩ := Option.map_eq_some_iff.1 Try.info37
  simp only [Prod.mk.injEq] at hzz
  obtain ⟨hz, hs, hb⟩ := hzz
  have hr := run_make (P := Try.prog) w 32 37 i (memV zero3) Try.underlying32 hi hz .i64 .i64 n n (by omega) (Int.le_refl _) (by rw [hb]; omega) (by omega)
  simp only [Int.toNat_natCast, hs] at hr
  exact hr
theorem row_first (w : World) (n : Nat) (ms : Nat → M3) : RowM (w.alloc (.cells (rows0 n) 37)) w.heap.size n (fun _ => False) ms :=
  ⟨rows0 n, Go.heap_alloc_new _ _, by simp [rows0, madeCells], fun _ _ h => h.elim⟩

structure ConvPost (n : Nat) (ms : Nat → M3) (w : World) (e : Ending) (w' : World) : Prop where
  ex : ∃ a c, e = .returned (.slice a n c) ∧ MemsAt w' a n ms
  below : Below w.heap.size w w'

theorem conv_nil (ms : Nat → M3) (w : World) : Calls Try.prog 9 #[.slice none 0 0] w fun e w' => ConvPost 0 ms w e w' := by
  have hnn := fun w a n c => Lib.run_eql_slice_nil (P := Try.prog) w 23 25 a n c 0 0 Try.underlying23
  go_enter Try.func9, Try.ntmps9
  go_wp2
  go_ret
  exact ⟨⟨none, 0, rfl, fun h => absurd h (by omega)⟩, Below.refl _ _⟩

set_option maxRecDepth 100000 in
set_option maxHeartbeats 1000000 in
theorem conv_some (x : Addr) (n c : Nat) (ms : Nat → M3) (w : World) (hn : n ≤ 65536) (h : MemsAt w (some x) n ms) :
    Calls Try.prog 9 #[.slice (some x) n c] w fun e w' => ConvPost n ms w e w' := by
  have hnn := fun w a n c => Lib.run_eql_slice_nil (P := Try.prog) w 23 25 a n c 0 0 Try.underlying23
  have hmk := make32 n (by omega) n rfl
  go_enter Try.func9, Try.ntmps9
  go_wp2
  have hr0 := row_first w n ms
  have hb0 : Below w.heap.size w (w.alloc (.cells (rows0 n) 37)) := (Below.refl _ _).alloc (Nat.le_refl _) _
  obtain ⟨g, hg⟩ : ∃ g, g = w.heap.size := ⟨_, rfl⟩
  rw [← hg] at hr0 ⊢
  have hgw : w.heap.size ≤ g := Nat.le_of_eq hg.symm
  generalize w.alloc (.cells (rows0 n) 37) = W0 at *
  clear hg hmk hnn
  go_loopg [4] n (fun q i wr => ∃ k : Nat, k + q = n ∧ i = .int .i64 k ∧ RowM wr g n (fun i => i < k) ms ∧ Below w.heap.size w wr)
  case atStart => exact ⟨0, by omega, rfl, hr0.mono (fun i _ h => absurd h (by omega)), hb0⟩
  case round =>
    clear hr0 hb0
    obtain ⟨k, hk, rfl, hr, hb⟩ := hrel
    by_cases hlt : k < n
    · obtain ⟨b, o, hx, hc⟩ := h.grow hb (Nat.le_refl _) (by omega)
      cases hx
      obtain ⟨c0, c1, c2⟩ := hc k hlt
      obtain ⟨⟨v0, d0⟩, f0⟩ := hr.there (k * 3) (by omega)
      obtain ⟨⟨v1, d1⟩, f1⟩ := hr.there (k * 3 + 1) (by omega)
      obtain ⟨⟨v2, d2⟩, f2⟩ := hr.there (k * 3 + 2) (by omega)
      have hnext := (hr.put k hlt (ms k)).mono (Q := fun i => i < k + 1) (ns := ms) (fun i hi hq => ⟨by omega, by by_cases e : i = k <;> simp [e]⟩)
      clear hc
      go_wp2_with fail
      go_roundg (n - (k + 1))
      case measure => omega
      case rel => exact ⟨k + 1, by omega, by go_num, hnext, ((hb.setCell hgw _).setCell hgw _).setCell hgw _⟩
    · obtain rfl : k = n := by omega
      go_wp2_with fail
      go_ret
      exact ⟨⟨_, _, rfl, hr.mems (fun i hi => hi)⟩, hb⟩

theorem conv_any (a : Option Addr) (n c : Nat) (ms : Nat → M3) (w : World) (hn : n ≤ 65536) (hnil : a = none → n = 0 ∧ c = 0) (h : MemsAt w a n ms) :
    Calls Try.prog 9 #[.slice a n c] w fun e w' => ConvPost n ms w e w' := by
  cases a with
  | none =>
    obtain ⟨rfl, rfl⟩ := hnil rfl
    exact conv_nil ms w
  | some x => exact conv_some x n c ms w hn h
end Go.Proofs.Qxb6630823a
