import Derived.Test.Qxb6630756aNew
import Derived.Test.Qxb6630756aPlain
namespace Go.Proofs.Qxb6630756a
open Go.RowKit

/-! ### Rows of numbers, told by a function -/
def rowF (n : Nat) (f : Nat → Int) : Array Value := Array.ofFn (n := n) (fun i => Value.int .i64 (f i.1))
theorem rowF_size (n : Nat) (f : Nat → Int) : (rowF n f).size = n := by simp [rowF]
theorem rowF_get (n : Nat) (f : Nat → Int) (k : Nat) (h : k < n) : (rowF n f)[k]? = some (.int .i64 (f k)) := by simp [rowF, h]
theorem rowF_ext (n : Nat) (f g : Nat → Int) (h : ∀ i, i < n → f i = g i) : rowF n f = rowF n g := by
  unfold rowF; congr 1; funext i; rw [h i.1 i.2]
theorem rowF_set (n : Nat) (f : Nat → Int) (k : Nat) (v : Int) : (rowF n f).setIfInBounds k (.int .i64 v) = rowF n (fun i => if i = k then v else f i) := by
  apply Array.ext_getElem?
  intro i
  rw [Array.getElem?_setIfInBounds, rowF_size]
  by_cases hi : i < n
  · rw [rowF_get _ _ _ hi, rowF_get _ _ _ hi]
    by_cases e : k = i
    · subst e; simp [hi]
    · simp [e, Ne.symm e]
  · have h1 : (rowF n f)[i]? = none := by rw [Array.getElem?_eq_none_iff, rowF_size]; omega
    have h2 : (rowF n (fun i => if i = k then v else f i))[i]? = none := by rw [Array.getElem?_eq_none_iff, rowF_size]; omega
    rw [h1, h2]
    by_cases e : k = i
    · subst e; simp [hi]
    · simp [e]

/-! ### The frame: of the old blocks, only those in bs may have turned -/
structure Turn (bs : List Nat) (w w' : World) : Prop where
  os : w'.os = w.os
  tape : w'.tape = w.tape
  output : w'.output = w.output
  size : w.heap.size ≤ w'.heap.size
  block : ∀ k, k < w.heap.size → k ∉ bs → w'.heap[k]? = w.heap[k]?

theorem Turn.refl (bs : List Nat) (w : World) : Turn bs w w := ⟨rfl, rfl, rfl, Nat.le_refl _, fun _ _ _ => rfl⟩
theorem Turn.trans {bs : List Nat} {a b c : World} (h : Turn bs a b) (k : Turn bs b c) : Turn bs a c :=
  ⟨k.os.trans h.os, k.tape.trans h.tape, k.output.trans h.output, Nat.le_trans h.size k.size, fun i hi hn => (k.block i (Nat.lt_of_lt_of_le hi h.size) hn).trans (h.block i hi hn)⟩
theorem Turn.mono {bs cs : List Nat} {w w' : World} (h : Turn bs w w') (hs : ∀ b ∈ bs, b ∈ cs) : Turn cs w w' :=
  ⟨h.os, h.tape, h.output, h.size, fun k hk hn => h.block k hk (fun hb => hn (hs k hb))⟩
theorem Turn.setCell {bs : List Nat} {w w' : World} (h : Turn bs w w') (b o : Nat) (v : Value) (hb : b ∈ bs) : Turn bs w (w'.setCell ⟨b, o, none⟩ v) :=
  h.trans ⟨rfl, rfl, rfl, by simp [World.setCell], fun k _ hn => heap_setCell_other _ _ _ _ (fun e => hn (e ▸ hb))⟩
theorem Turn.setRow {bs : List Nat} {w w' : World} (h : Turn bs w w') (b : Nat) (cs : Array Value) (hb : b ∈ bs) : Turn bs w (w'.setRow b cs) :=
  h.trans ⟨rfl, rfl, rfl, by simp, fun k _ hn => setRow_other _ _ _ _ (fun e => hn (e ▸ hb))⟩
theorem Turn.drewN {bs : List Nat} {w w' : World} (h : Turn bs w w') (n : Nat) : Turn bs w (w'.drewN n) := by
  exact h.trans ⟨rfl, rfl, rfl, Nat.le_refl _, fun k _ _ => rfl⟩
theorem Turn.alloc {bs : List Nat} {w w' : World} (h : Turn bs w w') (o : Obj) : Turn bs w (w'.alloc o) :=
  h.trans ⟨rfl, rfl, rfl, by simp, fun k hk _ => Below.heap_alloc _ _ _ hk⟩
theorem Turn.of_below {bs : List Nat} {w w' w'' : World} (h : Turn bs w w') (hb : Below w'.heap.size w' w'') : Turn bs w w'' :=
  h.trans ⟨hb.os, hb.tape, hb.output, hb.size, fun k hk _ => hb.block k hk⟩
/-- Where all that may turn is new, the old memory is as it was. -/
theorem Turn.below {bs : List Nat} {w0 w w' : World} (h0 : Below w0.heap.size w0 w) (h : Turn bs w w') (hb : ∀ b ∈ bs, w0.heap.size ≤ b) : Below w0.heap.size w0 w' :=
  h0.trans ⟨h.os, h.tape, h.output, h.size, fun k hk => h.block k (Nat.lt_of_lt_of_le hk h0.size) (fun hm => by have := hb k hm; omega)⟩

/-! ### Many cells of one block, stored at once -/
def splice (cs : Array Value) : Nat → List Value → Array Value
  | _, [] => cs
  | o, v :: r => splice (cs.setIfInBounds o v) (o + 1) r
theorem heap_setCells_at (g : Nat) (t : TypeId) : ∀ (vs : List Value) (o : Nat) (cs : Array Value) (w : World), w.heap[g]? = some (.cells cs t (0, 0)) → (w.setCells g o vs).heap[g]? = some (.cells (splice cs o vs) t (0, 0))
  | [], _, _, _, h => h
  | v :: r, o, cs, w, h => by
    rw [World.setCells, splice]
    exact heap_setCells_at g t r (o + 1) _ _ (heap_setCell_same _ _ _ _ _ _ h)
theorem heap_setCells_off (g : Nat) : ∀ (vs : List Value) (o : Nat) (w : World) (k : Nat), k ≠ g → (w.setCells g o vs).heap[k]? = w.heap[k]?
  | [], _, _, _, _ => rfl
  | v :: r, o, w, k, h => by
    rw [World.setCells, heap_setCells_off g r (o + 1) _ k h]
    exact heap_setCell_other _ _ _ _ h
theorem size_setCells (g : Nat) : ∀ (vs : List Value) (o : Nat) (w : World), (w.setCells g o vs).heap.size = w.heap.size
  | [], _, _ => rfl
  | v :: r, o, w => by rw [World.setCells, size_setCells g r (o + 1)]; simp [World.setCell]
theorem Turn.setCells {bs : List Nat} {w : World} (b : Nat) (hb : b ∈ bs) : ∀ (vs : List Value) (o : Nat) {w' : World}, Turn bs w w' → Turn bs w (w'.setCells b o vs)
  | [], _, _, h => h
  | v :: r, o, _, h => by
    rw [World.setCells]
    exact Turn.setCells b hb r (o + 1) (h.setCell b o v hb)
theorem splice_size : ∀ (vs : List Value) (o : Nat) (cs : Array Value), (splice cs o vs).size = cs.size
  | [], _, _ => rfl
  | v :: r, o, cs => by rw [splice, splice_size r (o + 1)]; simp
theorem splice_out : ∀ (vs : List Value) (o : Nat) (cs : Array Value) (i : Nat), (i < o ∨ o + vs.length ≤ i) → (splice cs o vs)[i]? = cs[i]?
  | [], _, _, _, _ => rfl
  | v :: r, o, cs, i, h => by
    simp only [List.length_cons] at h
    rw [splice, splice_out r (o + 1) _ i (by omega), Array.getElem?_setIfInBounds, if_neg (by omega)]
theorem splice_in : ∀ (vs : List Value) (o : Nat) (cs : Array Value) (j : Nat), j < vs.length → o + vs.length ≤ cs.size → (splice cs o vs)[o + j]? = vs[j]?
  | [], _, _, j, h, _ => absurd h (by simp)
  | v :: r, o, cs, 0, _, h2 => by
    simp only [List.length_cons] at h2
    rw [splice, splice_out r (o + 1) _ _ (by omega), Array.getElem?_setIfInBounds, if_pos (by omega)]
    simp
    omega
  | v :: r, o, cs, j + 1, h, h2 => by
    simp only [List.length_cons] at h h2
    rw [splice, show o + (j + 1) = o + 1 + j by omega, splice_in r (o + 1) _ j (by omega) (by simp; omega)]
    simp
theorem splice_all (vs : List Value) (cs : Array Value) (h : vs.length = cs.size) : splice cs 0 vs = vs.toArray := by
  apply Array.ext_getElem?
  intro i
  by_cases hi : i < vs.length
  · have := splice_in vs 0 cs i hi (by omega)
    rw [Nat.zero_add] at this
    rw [this]; simp
  · rw [Array.getElem?_eq_none (by rw [splice_size]; omega), Array.getElem?_eq_none (by simp; omega)]

end Go.Proofs.Qxb6630756a
