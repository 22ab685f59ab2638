import Derived.Test.Qxb6630823aCmp
import Derived.Laws.ResultCell
namespace Go.Proofs.Qxb6630823a
open Go.RowKit

structure MembPost (r : M3 × Bool) (w : World) (e : Ending) (w' : World) : Prop where
  ret : e = .returned (.tuple #[memV r.1, .bool r.2])
  below : Below w.heap.size w w'
structure MbAt (w wr : World) (A : Nat → Option Addr) (N C : Nat → Nat) : Prop where
  res : wr.heap[w.heap.size + 1]? = some (.cells #[.string { data := #[] }, .string { data := #[] }, .string { data := #[] }] 37 (0, 0))
  lst : wr.heap[w.heap.size + 2]? = some (.cells #[.slice (A 0) (N 0) (C 0), .slice (A 1) (N 1) (C 1), .slice (A 2) (N 2) (C 2)] 32 (0, 0))
  below : Below w.heap.size w wr
  size : w.heap.size + 3 ≤ wr.heap.size
theorem MbAt.grow {w wr x : World} {A : Nat → Option Addr} {N C : Nat → Nat} (h : MbAt w wr A N C) (hb : Below wr.heap.size wr x) : MbAt w x A N C :=
  have hs := h.size
  ⟨(hb.block _ (by omega)).trans h.res, (hb.block _ (by omega)).trans h.lst, h.below.trans (hb.mono h.below.size), by have := hb.size; omega⟩
theorem MbAt.at_ {w wr : World} {A : Nat → Option Addr} {N C : Nat → Nat} (h : MbAt w wr A N C) (k : Nat) (hk : k < 3) : wr.cell? ⟨w.heap.size + 1 + 1, k, none⟩ = some (.slice (A k) (N k) (C k)) := by
  rw [show w.heap.size + 1 + 1 = w.heap.size + 2 from rfl, cell_of_row _ _ _ _ _ _ h.lst]
  have : k = 0 ∨ k = 1 ∨ k = 2 := by omega
  rcases this with rfl | rfl | rfl <;> rfl
theorem mb_first (w : World) (x0 x1 x2 x4 : Value) (A : Nat → Option Addr) (N C : Nat → Nat) :
    MbAt w (((w.alloc (Obj.cells #[x0, x1, x2, Value.slice (A 0) (N 0) (C 0), Value.slice (A 1) (N 1) (C 1), Value.slice (A 2) (N 2) (C 2), x4] 35)).alloc
      (Obj.cells #[Value.string { data := #[] }, Value.string { data := #[] }, Value.string { data := #[] }] 37)).alloc (Obj.cells #[Value.slice (A 0) (N 0) (C 0), Value.slice (A 1) (N 1) (C 1), Value.slice (A 2) (N 2) (C 2)] 32)) A N C := by
  refine ⟨?_, ?_, (((Below.refl _ _).alloc (Nat.le_refl _) _).alloc (by simp) _).alloc (by simp; omega) _, by simp⟩
  · rw [Below.heap_alloc _ _ _ (by simp)]
    have := Go.heap_alloc_new (w.alloc (Obj.cells #[x0, x1, x2, Value.slice (A 0) (N 0) (C 0), Value.slice (A 1) (N 1) (C 1), Value.slice (A 2) (N 2) (C 2), x4] 35)) (Obj.cells #[Value.string { data := #[] }, Value.string { data := #[] }, Value.string { data := #[] }] 37)
    simpa using this
  · have := Go.heap_alloc_new ((w.alloc (Obj.cells #[x0, x1, x2, Value.slice (A 0) (N 0) (C 0), Value.slice (A 1) (N 1) (C 1), Value.slice (A 2) (N 2) (C 2), x4] 35)).alloc
      (Obj.cells #[Value.string { data := #[] }, Value.string { data := #[] }, Value.string { data := #[] }] 37)) (Obj.cells #[Value.slice (A 0) (N 0) (C 0), Value.slice (A 1) (N 1) (C 1), Value.slice (A 2) (N 2) (C 2)] 32)
    simpa using this
theorem find3_at (L : Nat → Option M3) (k : Nat) (hk : k < 3) (hn : ∀ j, j < k → L j = none) (x : M3) (hx : L k = some x) : find3 (L 0) (L 1) (L 2) = (x, true) := by
  have : k = 0 ∨ k = 1 ∨ k = 2 := by omega
  rcases this with rfl | rfl | rfl
  · simp [find3, hx]
  · simp [find3, hx, hn 0 (by omega)]
  · simp [find3, hx, hn 0 (by omega), hn 1 (by omega)]
theorem memb_res {w : World} {g : Nat} {m : M3} {tmps : Array Value} {b : Bool} (hg : w.heap[g]? = some (.cells (memCells m).toArray 37 (0, 0))) (h4 : tmps.getD 4 undef = .pointer (some ⟨g, 0, none⟩)) (h5 : tmps.getD 5 undef = .bool b) :
    (results Try.f11 tmps).run Try.prog w = .ok (.tuple #[memV m, .bool b]) w := by
  have hl := run_loadVar_row (P := Try.prog) w g 37 37 (memCells m).toArray (0, 0) _ hg Try.underlying37 rfl (by kernel_rfl)
  rw [results_cell_tmp Try.results11, h4, h5]
  simp [asAddr, hl]
  rfl

theorem memb_end {w x : World} {A : Nat → Option Addr} {N C : Nat → Nat} (h : MbAt w x A N C) (m : M3) :
    (((x.setCell ⟨w.heap.size + 1, 0, none⟩ (.string m.id)).setCell ⟨w.heap.size + 1, 1, none⟩ (.string m.peer)).setCell ⟨w.heap.size + 1, 2, none⟩ (.string m.client)).heap[w.heap.size + 1]? = some (.cells (memCells m).toArray 37 (0, 0)) := by
  have := heap_setCells_at (w.heap.size + 1) 37 (memCells m) 0 _ x h.res
  rw [splice_all (memCells m) #[.string { data := #[] }, .string { data := #[] }, .string { data := #[] }] rfl] at this
  exact this

set_option maxRecDepth 100000 in
set_option maxHeartbeats 2000000 in
theorem memb_gen (x0 x1 x2 x4 : Value) (A : Nat → Option Addr) (N C : Nat → Nat) (M : Nat → Nat → M3) (id : ByteArray) (w : World) (hN : ∀ k, N k ≤ 1048576) (hS : ∀ k, Sorted (M k) (N k)) (hM : ∀ k, MemsAt w (A k) (N k) (M k)) :
    Calls Try.prog 11 #[.agg #[x0, x1, x2, .slice (A 0) (N 0) (C 0), .slice (A 1) (N 1) (C 1), .slice (A 2) (N 2) (C 2), x4], .string id] w fun e w' =>
      MembPost (find3 (look (M 0) id (N 0)) (look (M 1) id (N 1)) (look (M 2) id (N 2))) w e w' := by
  go_enter Try.func11, Try.ntmps11
  go_wp2_with fail
  have hb0 := mb_first w x0 x1 x2 x4 A N C
  generalize ((w.alloc (Obj.cells #[x0, x1, x2, Value.slice (A 0) (N 0) (C 0), Value.slice (A 1) (N 1) (C 1), Value.slice (A 2) (N 2) (C 2), x4] 35)).alloc
      (Obj.cells #[Value.string { data := #[] }, Value.string { data := #[] }, Value.string { data := #[] }] 37)).alloc (Obj.cells #[Value.slice (A 0) (N 0) (C 0), Value.slice (A 1) (N 1) (C 1), Value.slice (A 2) (N 2) (C 2)] 32) = W at *
  have HN : Hid (∀ k, N k ≤ 1048576) := hN
  have HS : Hid (∀ k, Sorted (M k) (N k)) := hS
  have HM : Hid (∀ k, MemsAt w (A k) (N k) (M k)) := hM
  clear hN hS hM
  go_loopg [18, 7, 8, 9] 3 (fun q i _ _ _ wr => ∃ k : Nat, k + q = 3 ∧ i = .int .i64 k ∧ Hid (∀ j, j < k → look (M j) id (N j) = none) ∧ MbAt w wr A N C)
  case atStart => exact ⟨0, by omega, rfl, fun j hj => absurd hj (by omega), hb0⟩
  case round =>
    clear hb0
    obtain ⟨k, hk, rfl, HL, hm⟩ := hrel
    by_cases hlt : k < 3
    · have hc := hm.at_ k hlt
      go_wp2_with fail
      refine (search_any (A k) (N k) (C k) (M k) id wr (HN.out k) (HS.out k) ((HM.out k).grow hm.below (Nat.le_refl _))).mono ?_
      rintro e x1 ⟨⟨i, b, rfl, hy, hno⟩, hbx⟩
      have hm1 := hm.grow hbx
      clear hm hc
      cases b
      · have HO : Hid (look (M k) id (N k) = none) := hno rfl
        clear hy hno
        go_wp2_with fail
        go_roundg (3 - (k + 1))
        case measure => omega
        case rel =>
          refine ⟨k + 1, by omega, by go_num, fun j hj => ?_, hm1⟩
          by_cases e : j = k
          · subst e; exact HO.out
          · exact HL.out j (by omega)
      · obtain ⟨hiN, hlk⟩ := hy rfl
        have HY : Hid (look (M k) id (N k) = some (M k i)) := hlk
        clear hy hno hlk
        obtain ⟨b, o, hx, hcs⟩ := (HM.out k).grow hm1.below (Nat.le_refl _) (by omega)
        obtain ⟨d0, d1, d2⟩ := hcs i hiN
        rw [hx]
        clear hcs
        have r0 : x1.cell? ⟨w.heap.size + 1, 0, none⟩ = some (.string { data := #[] }) := by rw [cell_of_row _ _ _ _ _ _ hm1.res]; rfl
        have r1 : x1.cell? ⟨w.heap.size + 1, 1, none⟩ = some (.string { data := #[] }) := by rw [cell_of_row _ _ _ _ _ _ hm1.res]; rfl
        have r2 : x1.cell? ⟨w.heap.size + 1, 2, none⟩ = some (.string { data := #[] }) := by rw [cell_of_row _ _ _ _ _ _ hm1.res]; rfl
        have f : ∀ j, x1.frozen? ⟨w.heap.size + 1, j, none⟩ = false := fun j => frozen_of_row _ _ _ _ _ hm1.res
        go_wp2_with fail
        refine bodyPost_ret (memb_res (memb_end hm1 (M k i)) (by rfl) (by rfl)) rfl ?_
        have hf := find3_at (fun j => look (M j) id (N j)) k hlt HL.out (M k i) HY.out
        exact ⟨by rw [hf], ((hm1.below.setCell (by simp) _).setCell (by simp) _).setCell (by simp) _⟩
    · obtain rfl : k = 3 := by omega
      have r0 : wr.cell? ⟨w.heap.size + 1, 0, none⟩ = some (.string { data := #[] }) := by rw [cell_of_row _ _ _ _ _ _ hm.res]; rfl
      have r1 : wr.cell? ⟨w.heap.size + 1, 1, none⟩ = some (.string { data := #[] }) := by rw [cell_of_row _ _ _ _ _ _ hm.res]; rfl
      have r2 : wr.cell? ⟨w.heap.size + 1, 2, none⟩ = some (.string { data := #[] }) := by rw [cell_of_row _ _ _ _ _ _ hm.res]; rfl
      have f : ∀ j, wr.frozen? ⟨w.heap.size + 1, j, none⟩ = false := fun j => frozen_of_row _ _ _ _ _ hm.res
      go_wp2_with fail
      refine bodyPost_ret (memb_res (memb_end hm zero3) (by rfl) (by rfl)) rfl ?_
      have e0 := HL.out 0 (by omega)
      have e1 := HL.out 1 (by omega)
      have e2 := HL.out 2 (by omega)
      exact ⟨by rw [e0, e1, e2]; rfl, ((hm.below.setCell (by simp) _).setCell (by simp) _).setCell (by simp) _⟩

def pick3 {α : Type} (a b c : α) (k : Nat) : α := if k = 0 then a else if k = 1 then b else c
theorem pick3_all {α : Type} {P : α → Prop} {a b c : α} (h1 : P a) (h2 : P b) (h3 : P c) (k : Nat) : P (pick3 a b c k) := by
  unfold pick3
  split
  · exact h1
  · split
    · exact h2
    · exact h3
theorem memb_any (x0 x1 x2 x4 : Value) (a1 a2 a3 : Option Addr) (n1 n2 n3 c1 c2 c3 : Nat) (m1 m2 m3 : Nat → M3) (id : ByteArray) (w : World) (h1 : n1 ≤ 1048576) (h2 : n2 ≤ 1048576) (h3 : n3 ≤ 1048576) (s1 : Sorted m1 n1) (s2 : Sorted m2 n2) (s3 : Sorted m3 n3)
    (e1 : MemsAt w a1 n1 m1) (e2 : MemsAt w a2 n2 m2) (e3 : MemsAt w a3 n3 m3) :
    Calls Try.prog 11 #[.agg #[x0, x1, x2, .slice a1 n1 c1, .slice a2 n2 c2, .slice a3 n3 c3, x4], .string id] w fun e w' => MembPost (find3 (look m1 id n1) (look m2 id n2) (look m3 id n3)) w e w' := by
  have := memb_gen x0 x1 x2 x4 (pick3 a1 a2 a3) (pick3 n1 n2 n3) (pick3 c1 c2 c3) (pick3 m1 m2 m3) id w (fun k => pick3_all (P := fun n => n ≤ 1048576) h1 h2 h3 k)
    (fun k => by
      unfold pick3
      split
      · exact s1
      · split
        · exact s2
        · exact s3)
    (fun k => by
      unfold pick3
      split
      · exact e1
      · split
        · exact e2
        · exact e3)
  exact this
end Go.Proofs.Qxb6630823a
