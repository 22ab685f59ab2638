import Derived.Test.Qxb6630883aLeaf
import Derived.BigRegion
namespace Go.Proofs.Qxb6630883a
open Go.RowKit

theorem Try.info33 : (Try.prog.info? 33).map (fun i => (i.zero, i.size, i.bytes)) = some (some (.agg (fCells zero4).toArray), 4, 56) := by kernel_rfl
theorem Try.info29 : (Try.prog.info? 29).map (fun i => (i.zero, i.size, i.bytes)) = some (some (.agg (fCells zero4).toArray), 4, 56) := by kernel_rfl
def rows0 (n : Nat) : Array Value := madeCells (fCells zero4).toArray (n * 4)
theorem make25 (n : Nat) (hn : n ≤ 1048576) (c : Int) (hc : c = n) (w : World) :
    (Instr.makeSlice 25 (.int .i64 c) (.int .i64 c)).run Try.prog w = .ok (.slice (some ⟨w.heap.size, 0, none⟩) n n) (w.alloc (.cells (rows0 n) 33)) := by
  subst hc
  obtain ⟨i, hi, hzz⟩ := Option.map_eq_some_iff.1 Try.info33
  simp only [Prod.mk.injEq] at hzz
  obtain ⟨hz, hs, hb⟩ := hzz
  have hr := run_make (P := Try.prog) w 25 33 i (.agg (fCells zero4).toArray) Try.underlying25 hi hz .i64 .i64 n n (by omega) (Int.le_refl _) (by rw [hb]; omega) (by omega)
  simp only [Int.toNat_natCast, hs] at hr
  exact hr
theorem make22 (l n : Nat) (hl : l ≤ n) (hn : n ≤ 1048576) (d c : Int) (hd : d = l) (hc : c = n) (w : World) :
    (Instr.makeSlice 22 (.int .i64 d) (.int .i64 c)).run Try.prog w = .ok (.slice (some ⟨w.heap.size, 0, none⟩) l n) (w.alloc (.cells (rows0 n) 29)) := by
  subst hc
  subst hd
  obtain ⟨i, hi, hzz⟩ := Option.map_eq_some_iff.1 Try.info29
  simp only [Prod.mk.injEq] at hzz
  obtain ⟨hz, hs, hb⟩ := hzz
  have hr := run_make (P := Try.prog) w 22 29 i (.agg (fCells zero4).toArray) Try.underlying22 hi hz .i64 .i64 l n (by omega) (by omega) (by rw [hb]; omega) (by omega)
  simp only [Int.toNat_natCast, hs] at hr
  exact hr
theorem row_first (w : World) (n : Nat) (t : TypeId) (fs : Nat → F4) : RowF (w.alloc (.cells (rows0 n) t)) w.heap.size n t (fun _ => False) fs :=
  ⟨rows0 n, Go.heap_alloc_new _ _, by simp [rows0, madeCells], fun _ _ h => h.elim⟩

theorem below_drew1 {b : Nat} {w w' : World} (h : Below b w w') : Below b w w'.drew := h.trans ⟨rfl, rfl, rfl, Nat.le_refl _, fun _ _ => rfl⟩
theorem row_drew {w : World} {g n : Nat} {t : TypeId} {P : Nat → Prop} {fs : Nat → F4} (h : RowF w g n t P fs) : RowF w.drew g n t P fs := by
  obtain ⟨arr, hg, hs, ha⟩ := h
  exact ⟨arr, hg, hs, ha⟩
structure ConvPost (n : Nat) (fs : Nat → F4) (w : World) (e : Ending) (w' : World) : Prop where
  ex : (e = .returned (.slice none 0 0) ∧ n = 0) ∨ ∃ g, e = .returned (.slice (some ⟨g, 0, none⟩) n n) ∧ FsAt w' (some ⟨g, 0, none⟩) n fs
  below : Below w.heap.size w w'

theorem conv_nil (fs : Nat → F4) (w : World) : Calls Try.prog 7 #[.slice none 0 0] w fun e w' => ConvPost 0 fs w e w' := by
  have hnn := fun w a n c => Lib.run_eql_slice_nil (P := Try.prog) w 22 29 a n c 0 0 Try.underlying22
  go_enter Try.func7, Try.ntmps7
  go_wp2
  go_ret
  exact ⟨.inl ⟨rfl, rfl⟩, Below.refl _ _⟩

set_option maxRecDepth 100000 in
set_option maxHeartbeats 1000000 in
theorem conv_some (x : Addr) (n c : Nat) (fs : Nat → F4) (w : World) (hn : n ≤ 65537) (h : FsAt w (some x) n fs) :
    Calls Try.prog 7 #[.slice (some x) n c] w fun e w' => ConvPost n fs w e w' := by
  have hnn := fun w a n c => Lib.run_eql_slice_nil (P := Try.prog) w 22 29 a n c 0 0 Try.underlying22
  have hmk := make25 n (by omega) n rfl
  go_enter Try.func7, Try.ntmps7
  go_wp2
  have hr0 := row_first w n 33 fs
  have hb0 : Below w.heap.size w (w.alloc (.cells (rows0 n) 33)) := (Below.refl _ _).alloc (Nat.le_refl _) _
  obtain ⟨g, hg⟩ : ∃ g, g = w.heap.size := ⟨_, rfl⟩
  rw [← hg] at hr0 ⊢
  have hgw : w.heap.size ≤ g := Nat.le_of_eq hg.symm
  generalize w.alloc (.cells (rows0 n) 33) = W0 at *
  clear hg hmk hnn
  go_loopg [4] n (fun q i wr => ∃ k : Nat, k + q = n ∧ i = .int .i64 k ∧ RowF wr g n 33 (fun i => i < k) fs ∧ Below w.heap.size w wr)
  case atStart => exact ⟨0, by omega, rfl, hr0.mono (fun i _ h => absurd h (by omega)), hb0⟩
  case round =>
    clear hr0 hb0
    obtain ⟨k, hk, rfl, hr, hb⟩ := hrel
    by_cases hlt : k < n
    · obtain ⟨b, o, hx, hc⟩ := h.grow hb (Nat.le_refl _) (by omega)
      cases hx
      obtain ⟨c0, c1, c2, c3⟩ := hc k hlt
      obtain ⟨⟨v0, d0⟩, f0⟩ := hr.there (k * 4) (by omega)
      obtain ⟨⟨v1, d1⟩, f1⟩ := hr.there (k * 4 + 1) (by omega)
      obtain ⟨⟨v2, d2⟩, f2⟩ := hr.there (k * 4 + 2) (by omega)
      obtain ⟨⟨v3, d3⟩, f3⟩ := hr.there (k * 4 + 3) (by omega)
      have i1 : (0 : Int) ≤ (k : Int) := by omega
      have i2 : (k : Int) < (n : Int) := by omega
      clear hc
      go_wp2_with fail
      go_region
      have hnext := (hr.put k hlt (fs k)).mono (Q := fun i => i < k + 1) (gs := fs) (fun i hi hq => ⟨by omega, by by_cases e : i = k <;> simp [e]⟩)
      have hbn := below_drew1 ((((hb.setCell (p := ⟨g, k * 4, none⟩) hgw (.int .i64 (fs k).line)).setCell (p := ⟨g, k * 4 + 1, none⟩) hgw (.string (fs k).sev)).setCell (p := ⟨g, k * 4 + 2, none⟩) hgw (.string (fs k).rule)).setCell (p := ⟨g, k * 4 + 3, none⟩) hgw (.string (fs k).text))
      replace hnext := row_drew hnext
      go_wp2_with fail
      go_roundg (n - (k + 1))
      case measure => omega
      case rel => exact ⟨k + 1, by omega, by go_num, hnext, hbn⟩
    · obtain rfl : k = n := by omega
      go_wp2_with fail
      go_ret
      exact ⟨.inr ⟨_, rfl, hr.fs (Nat.le_refl _) (fun i hi => hi)⟩, hb⟩
theorem conv_any (a : Option Addr) (n c : Nat) (fs : Nat → F4) (w : World) (hn : n ≤ 65537) (hnil : a = none → n = 0 ∧ c = 0) (h : FsAt w a n fs) :
    Calls Try.prog 7 #[.slice a n c] w fun e w' => ConvPost n fs w e w' := by
  cases a with
  | none =>
    obtain ⟨rfl, rfl⟩ := hnil rfl
    exact conv_nil fs w
  | some x => exact conv_some x n c fs w hn h
end Go.Proofs.Qxb6630883a
