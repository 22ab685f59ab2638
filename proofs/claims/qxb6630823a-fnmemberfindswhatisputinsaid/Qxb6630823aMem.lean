import Derived.Test.Qxb6630823aRows
import Derived.Test.Qxb6630823aPlain
import Derived.WalkKit
import Derived.WalkSpells
import Derived.WalkLawsBesides
import Derived.Deep.Cut
import Derived.Deep.MidRow
import Derived.Deep.LoopGhost
import Derived.Deep.QuietTactic
import Derived.BigQuiet
namespace Go.Proofs.Qxb6630823a
open Go.RowKit

theorem heap_lt {w : World} {k : Nat} {o : Obj} (h : w.heap[k]? = some o) : k < w.heap.size := (Array.getElem?_eq_some_iff.1 h).1
/-! ### The frame: of the old blocks, only those in bs may have turned -/
structure Turn (bs : List Nat) (w w' : World) : Prop where
  os : w'.os = w.os
  tape : w'.tape = w.tape
  output : w'.output = w.output
  size : w.heap.size ≤ w'.heap.size
  block : ∀ k, k < w.heap.size → k ∉ bs → w'.heap[k]? = w.heap[k]?

theorem Turn.refl (bs : List Nat) (w : World) : Turn bs w w := ⟨rfl, rfl, rfl, Nat.le_refl _, fun _ _ _ => rfl⟩
theorem Turn.trans {bs : List Nat} {a b c : World} (h : Turn bs a b) (k : Turn bs b c) : Turn bs a c :=
  ⟨k.os.trans h.os, k.tape.trans h.tape, k.output.trans h.output, Nat.le_trans h.size k.size, fun i hi hn => (k.block i (Nat.lt_of_lt_of_le hi h.size) hn).trans (h.block i hi hn)⟩
theorem Turn.mono {bs cs : List Nat} {w w' : World} (h : Turn bs w w') (hs : ∀ b ∈ bs, b ∈ cs) : Turn cs w w' :=
  ⟨h.os, h.tape, h.output, h.size, fun k hk hn => h.block k hk (fun hb => hn (hs k hb))⟩
theorem Turn.setCell {bs : List Nat} {w w' : World} (h : Turn bs w w') (b o : Nat) (v : Value) (hb : b ∈ bs) : Turn bs w (w'.setCell ⟨b, o, none⟩ v) :=
  h.trans ⟨rfl, rfl, rfl, by simp [World.setCell], fun k _ hn => heap_setCell_other _ _ _ _ (fun e => hn (e ▸ hb))⟩
theorem Turn.setRow {bs : List Nat} {w w' : World} (h : Turn bs w w') (b : Nat) (cs : Array Value) (hb : b ∈ bs) : Turn bs w (w'.setRow b cs) :=
  h.trans ⟨rfl, rfl, rfl, by simp, fun k _ hn => setRow_other _ _ _ _ (fun e => hn (e ▸ hb))⟩
theorem Turn.drewN {bs : List Nat} {w w' : World} (h : Turn bs w w') (n : Nat) : Turn bs w (w'.drewN n) := by
  exact h.trans ⟨rfl, rfl, rfl, Nat.le_refl _, fun k _ _ => rfl⟩
theorem Turn.alloc {bs : List Nat} {w w' : World} (h : Turn bs w w') (o : Obj) : Turn bs w (w'.alloc o) :=
  h.trans ⟨rfl, rfl, rfl, by simp, fun k hk _ => Below.heap_alloc _ _ _ hk⟩
theorem Turn.of_below {bs : List Nat} {w w' w'' : World} (h : Turn bs w w') (hb : Below w'.heap.size w' w'') : Turn bs w w'' :=
  h.trans ⟨hb.os, hb.tape, hb.output, hb.size, fun k hk _ => hb.block k hk⟩
/-- Where all that may turn is new, the old memory is as it was. -/
theorem Turn.below {bs : List Nat} {w0 w w' : World} (h0 : Below w0.heap.size w0 w) (h : Turn bs w w') (hb : ∀ b ∈ bs, w0.heap.size ≤ b) : Below w0.heap.size w0 w' :=
  h0.trans ⟨h.os, h.tape, h.output, h.size, fun k hk => h.block k (Nat.lt_of_lt_of_le hk h0.size) (fun hm => by have := hb k hm; omega)⟩

/-! ### Many cells of one block, stored at once -/
def splice (cs : Array Value) : Nat → List Value → Array Value
  | _, [] => cs
  | o, v :: r => splice (cs.setIfInBounds o v) (o + 1) r
theorem heap_setCells_at (g : Nat) (t : TypeId) : ∀ (vs : List Value) (o : Nat) (cs : Array Value) (w : World), w.heap[g]? = some (.cells cs t (0, 0)) → (w.setCells g o vs).heap[g]? = some (.cells (splice cs o vs) t (0, 0))
  | [], _, _, _, h => h
  | v :: r, o, cs, w, h => by
    rw [World.setCells, splice]
    exact heap_setCells_at g t r (o + 1) _ _ (heap_setCell_same _ _ _ _ _ _ h)
theorem heap_setCells_off (g : Nat) : ∀ (vs : List Value) (o : Nat) (w : World) (k : Nat), k ≠ g → (w.setCells g o vs).heap[k]? = w.heap[k]?
  | [], _, _, _, _ => rfl
  | v :: r, o, w, k, h => by
    rw [World.setCells, heap_setCells_off g r (o + 1) _ k h]
    exact heap_setCell_other _ _ _ _ h
theorem size_setCells (g : Nat) : ∀ (vs : List Value) (o : Nat) (w : World), (w.setCells g o vs).heap.size = w.heap.size
  | [], _, _ => rfl
  | v :: r, o, w => by rw [World.setCells, size_setCells g r (o + 1)]; simp [World.setCell]
theorem Turn.setCells {bs : List Nat} {w : World} (b : Nat) (hb : b ∈ bs) : ∀ (vs : List Value) (o : Nat) {w' : World}, Turn bs w w' → Turn bs w (w'.setCells b o vs)
  | [], _, _, h => h
  | v :: r, o, _, h => by
    rw [World.setCells]
    exact Turn.setCells b hb r (o + 1) (h.setCell b o v hb)
theorem splice_size : ∀ (vs : List Value) (o : Nat) (cs : Array Value), (splice cs o vs).size = cs.size
  | [], _, _ => rfl
  | v :: r, o, cs => by rw [splice, splice_size r (o + 1)]; simp
theorem splice_out : ∀ (vs : List Value) (o : Nat) (cs : Array Value) (i : Nat), (i < o ∨ o + vs.length ≤ i) → (splice cs o vs)[i]? = cs[i]?
  | [], _, _, _, _ => rfl
  | v :: r, o, cs, i, h => by
    simp only [List.length_cons] at h
    rw [splice, splice_out r (o + 1) _ i (by omega), Array.getElem?_setIfInBounds, if_neg (by omega)]
theorem splice_in : ∀ (vs : List Value) (o : Nat) (cs : Array Value) (j : Nat), j < vs.length → o + vs.length ≤ cs.size → (splice cs o vs)[o + j]? = vs[j]?
  | [], _, _, j, h, _ => absurd h (by simp)
  | v :: r, o, cs, 0, _, h2 => by
    simp only [List.length_cons] at h2
    rw [splice, splice_out r (o + 1) _ _ (by omega), Array.getElem?_setIfInBounds, if_pos (by omega)]
    simp
    omega
  | v :: r, o, cs, j + 1, h, h2 => by
    simp only [List.length_cons] at h h2
    rw [splice, show o + (j + 1) = o + 1 + j by omega, splice_in r (o + 1) _ j (by omega) (by simp; omega)]
    simp
theorem splice_all (vs : List Value) (cs : Array Value) (h : vs.length = cs.size) : splice cs 0 vs = vs.toArray := by
  apply Array.ext_getElem?
  intro i
  by_cases hi : i < vs.length
  · have := splice_in vs 0 cs i hi (by omega)
    rw [Nat.zero_add] at this
    rw [this]; simp
  · rw [Array.getElem?_eq_none (by rw [splice_size]; omega), Array.getElem?_eq_none (by simp; omega)]

theorem tape_setCells (g : Nat) : ∀ (vs : List Value) (o : Nat) (w : World), (w.setCells g o vs).tape = w.tape
  | [], _, _ => rfl
  | v :: r, o, w => by rw [World.setCells, tape_setCells g r (o + 1)]; rfl
theorem os_setCells (g : Nat) : ∀ (vs : List Value) (o : Nat) (w : World), (w.setCells g o vs).os = w.os
  | [], _, _ => rfl
  | v :: r, o, w => by rw [World.setCells, os_setCells g r (o + 1)]; rfl
theorem output_setCells (g : Nat) : ∀ (vs : List Value) (o : Nat) (w : World), (w.setCells g o vs).output = w.output
  | [], _, _ => rfl
  | v :: r, o, w => by rw [World.setCells, output_setCells g r (o + 1)]; rfl

/-! ### Members in memory -/
def memCells (m : M3) : List Value := [.string m.id, .string m.peer, .string m.client]
def memV (m : M3) : Value := .agg #[.string m.id, .string m.peer, .string m.client]
/-- A slice of members; where it is empty nothing is known of its address. -/
def MemsAt (w : World) (a : Option Addr) (n : Nat) (ms : Nat → M3) : Prop :=
  0 < n → ∃ b o, a = some ⟨b, o, none⟩ ∧ ∀ i, i < n → w.cell? ⟨b, o + i * 3, none⟩ = some (.string (ms i).id) ∧ w.cell? ⟨b, o + i * 3 + 1, none⟩ = some (.string (ms i).peer) ∧ w.cell? ⟨b, o + i * 3 + 2, none⟩ = some (.string (ms i).client)
theorem MemsAt.grow {w w' : World} {a : Option Addr} {n : Nat} {ms : Nat → M3} {B : Nat} (h : MemsAt w a n ms) (hb : Below B w w') (hB : w.heap.size ≤ B) : MemsAt w' a n ms := by
  intro hp
  obtain ⟨b, o, rfl, hc⟩ := h hp
  refine ⟨b, o, rfl, fun i hi => ?_⟩
  obtain ⟨h1, h2, h3⟩ := hc i hi
  have hl : b < B := Nat.lt_of_lt_of_le (block_lt_of_cell h1) hB
  exact ⟨(hb.cell (p := ⟨b, o + i * 3, none⟩) hl).trans h1, (hb.cell (p := ⟨b, o + i * 3 + 1, none⟩) hl).trans h2, (hb.cell (p := ⟨b, o + i * 3 + 2, none⟩) hl).trans h3⟩
theorem MemsAt.drewN {w : World} {a : Option Addr} {n : Nat} {ms : Nat → M3} (h : MemsAt w a n ms) (m : Nat) : MemsAt (w.drewN m) a n ms := h

/-- A row of members that the call itself has made, some of them laid. -/
structure RowM (w : World) (g n : Nat) (P : Nat → Prop) (ms : Nat → M3) : Prop where
  ex : ∃ arr : Array Value, w.heap[g]? = some (.cells arr 37 (0, 0)) ∧ arr.size = n * 3 ∧ ∀ i, i < n → P i → arr[i * 3]? = some (.string (ms i).id) ∧ arr[i * 3 + 1]? = some (.string (ms i).peer) ∧ arr[i * 3 + 2]? = some (.string (ms i).client)
theorem RowM.lt {w : World} {g n : Nat} {P : Nat → Prop} {ms : Nat → M3} (h : RowM w g n P ms) : g < w.heap.size := by
  obtain ⟨arr, hg, _⟩ := h.ex
  exact heap_lt hg
theorem RowM.there {w : World} {g n : Nat} {P : Nat → Prop} {ms : Nat → M3} (h : RowM w g n P ms) (j : Nat) (hj : j < n * 3) : (∃ v, w.cell? ⟨g, j, none⟩ = some v) ∧ w.frozen? ⟨g, j, none⟩ = false := by
  obtain ⟨arr, hg, hs, _⟩ := h.ex
  exact ⟨⟨arr[j], by rw [cell_of_row _ _ _ _ _ _ hg]; simp⟩, frozen_of_row _ _ _ _ _ hg⟩
theorem RowM.grow {w w' : World} {g n : Nat} {P : Nat → Prop} {ms : Nat → M3} (h : RowM w g n P ms) (e : w'.heap[g]? = w.heap[g]?) : RowM w' g n P ms := by
  obtain ⟨arr, hg, hs, ha⟩ := h
  exact ⟨arr, e.trans hg, hs, ha⟩
theorem RowM.mono {w : World} {g n : Nat} {P Q : Nat → Prop} {ms ns : Nat → M3} (h : RowM w g n P ms) (hq : ∀ i, i < n → Q i → P i ∧ ms i = ns i) : RowM w g n Q ns := by
  obtain ⟨arr, hg, hs, ha⟩ := h
  refine ⟨arr, hg, hs, fun i hi hQ => ?_⟩
  obtain ⟨hP, e⟩ := hq i hi hQ
  rw [← e]; exact ha i hi hP
/-- One member is stored at place k. -/
theorem RowM.put {w : World} {g n : Nat} {P : Nat → Prop} {ms : Nat → M3} (h : RowM w g n P ms) (k : Nat) (hk : k < n) (m : M3) :
    RowM (((w.setCell ⟨g, k * 3, none⟩ (.string m.id)).setCell ⟨g, k * 3 + 1, none⟩ (.string m.peer)).setCell ⟨g, k * 3 + 2, none⟩ (.string m.client)) g n (fun i => P i ∨ i = k) (fun i => if i = k then m else ms i) := by
  obtain ⟨arr, hg, hs, ha⟩ := h
  refine ⟨splice arr (k * 3) (memCells m), heap_setCells_at g 37 (memCells m) (k * 3) arr w hg, by rw [splice_size]; exact hs, fun i hi hP => ?_⟩
  by_cases e : i = k
  · subst e
    have hlen : (memCells m).length = 3 := rfl
    have h0 := splice_in (memCells m) (i * 3) arr 0 (by rw [hlen]; omega) (by rw [hlen]; omega)
    have h1 := splice_in (memCells m) (i * 3) arr 1 (by rw [hlen]; omega) (by rw [hlen]; omega)
    have h2 := splice_in (memCells m) (i * 3) arr 2 (by rw [hlen]; omega) (by rw [hlen]; omega)
    simp only [if_true]
    exact ⟨h0, h1, h2⟩
  · have hlen : (memCells m).length = 3 := rfl
    simp only [if_neg e]
    obtain ⟨h0, h1, h2⟩ := ha i hi (by rcases hP with h | h; exact h; exact absurd h e)
    refine ⟨(splice_out _ _ _ _ (by rw [hlen]; omega)).trans h0, (splice_out _ _ _ _ (by rw [hlen]; omega)).trans h1, (splice_out _ _ _ _ (by rw [hlen]; omega)).trans h2⟩
theorem RowM.mems {w : World} {g n : Nat} {P : Nat → Prop} {ms : Nat → M3} (h : RowM w g n P ms) (hP : ∀ i, i < n → P i) : MemsAt w (some ⟨g, 0, none⟩) n ms := by
  intro _
  obtain ⟨arr, hg, hs, ha⟩ := h.ex
  refine ⟨g, 0, rfl, fun i hi => ?_⟩
  obtain ⟨h0, h1, h2⟩ := ha i hi (hP i hi)
  rw [Nat.zero_add]
  exact ⟨(cell_of_row _ _ _ _ _ _ hg).trans h0, (cell_of_row _ _ _ _ _ _ hg).trans h1, (cell_of_row _ _ _ _ _ _ hg).trans h2⟩

end Go.Proofs.Qxb6630823a
