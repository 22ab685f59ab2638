import Derived.Test.Qxb6630883aRows
import Derived.WalkKit
import Derived.WalkSpells
import Derived.WalkLawsBesides
import Derived.Deep.Cut
import Derived.Deep.MidRow
import Derived.Deep.LoopGhost
import Derived.Deep.QuietTactic
import Derived.BigQuiet
import Derived.Lib.SliceRun
namespace Go.Proofs.Qxb6630883a
open Go.RowKit

/-! ### Findings, plainly -/
structure F4 where
  line : Int
  sev : ByteArray
  rule : ByteArray
  text : ByteArray
def zero4 : F4 := ⟨0, { data := #[] }, { data := #[] }, { data := #[] }⟩
def isErr (s : ByteArray) : Bool := s.toList == [101, 114, 114, 111, 114]
/-- None of the first n is an error. -/
def conf (fs : Nat → F4) : Nat → Bool
  | 0 => true
  | k + 1 => conf fs k && !(isErr (fs k).sev)
theorem conf_mono (fs : Nat → F4) (k : Nat) (h : conf fs k = false) : ∀ d, conf fs (k + d) = false
  | 0 => h
  | d + 1 => by rw [← Nat.add_assoc, conf, conf_mono fs k h d]; rfl
theorem conf_split (fs : Nat → F4) (k : Nat) : ∀ d, conf fs (k + d) = (conf fs k && conf (fun i => fs (k + i)) d)
  | 0 => by simp [conf]
  | d + 1 => by rw [← Nat.add_assoc, conf, conf, conf_split fs k d, Bool.and_assoc]
theorem conf_congr {fs gs : Nat → F4} : ∀ n, (∀ i, i < n → (fs i).sev = (gs i).sev) → conf fs n = conf gs n
  | 0, _ => rfl
  | n + 1, h => by rw [conf, conf, conf_congr n (fun i hi => h i (by omega)), h n (by omega)]
theorem conf_true {fs : Nat → F4} : ∀ n, (∀ i, i < n → isErr (fs i).sev = false) → conf fs n = true
  | 0, _ => rfl
  | n + 1, h => by rw [conf, conf_true n (fun i hi => h i (by omega)), h n (by omega)]; rfl
/-- All alike. -/
theorem conf_uni (fs : Nat → F4) (s : ByteArray) : ∀ n, (∀ i, i < n → (fs i).sev = s) → conf fs n = (!(isErr s) || n == 0)
  | 0, _ => by simp [conf]
  | 1, h => by simp [conf, h 0 (by omega)]
  | n + 2, h => by
    rw [conf, conf_uni fs s (n + 1) (fun i hi => h i (by omega)), h (n + 1) (by omega)]
    cases isErr s <;> simp
def put (fs : Nat → F4) (x : F4) (k i : Nat) : F4 := if i < k then fs i else if i = k then x else fs (i - 1)
theorem conf_put (fs : Nat → F4) (x : F4) (k d : Nat) : conf (put fs x k) (k + 1 + d) = (conf fs (k + d) && !(isErr x.sev)) := by
  rw [conf_split (put fs x k) (k + 1) d, conf_split fs k d, conf, conf_congr (gs := fs) k (fun i hi => by simp [put, hi]),
    conf_congr (fs := fun i => put fs x k (k + 1 + i)) (gs := fun i => fs (k + i)) d (fun i _ => by simp [put, show ¬ k + 1 + i < k by omega, show ¬ k + 1 + i = k by omega, show k + 1 + i - 1 = k + i by omega])]
  have : (put fs x k k).sev = x.sev := by simp [put]
  rw [this]
  cases conf fs k <;> cases conf (fun i => fs (k + i)) d <;> cases isErr x.sev <;> rfl

/-! ### Memory -/
theorem heap_lt {w : World} {k : Nat} {o : Obj} (h : w.heap[k]? = some o) : k < w.heap.size := (Array.getElem?_eq_some_iff.1 h).1
theorem below_drew {b : Nat} {w w' : World} (h : Below b w w') (m : Nat) : Below b w (w'.drewN m) := h.trans ⟨rfl, rfl, rfl, Nat.le_refl _, fun _ _ => rfl⟩
theorem below_step {w y z : World} (h : Below w.heap.size w y) (hb : Below y.heap.size y z) : Below w.heap.size w z := h.trans (hb.mono h.size)
theorem below_alloc (y : World) (o : Obj) : Below y.heap.size y (y.alloc o) := (Below.refl _ _).alloc (Nat.le_refl _) _
def splice (cs : Array Value) : Nat → List Value → Array Value
  | _, [] => cs
  | o, v :: r => splice (cs.setIfInBounds o v) (o + 1) r
theorem heap_setCells_at (g : Nat) (t : TypeId) : ∀ (vs : List Value) (o : Nat) (cs : Array Value) (w : World), w.heap[g]? = some (.cells cs t (0, 0)) → (w.setCells g o vs).heap[g]? = some (.cells (splice cs o vs) t (0, 0))
  | [], _, _, _, h => h
  | v :: r, o, cs, w, h => by
    rw [World.setCells, splice]
    exact heap_setCells_at g t r (o + 1) _ _ (heap_setCell_same _ _ _ _ _ _ h)
theorem splice_size : ∀ (vs : List Value) (o : Nat) (cs : Array Value), (splice cs o vs).size = cs.size
  | [], _, _ => rfl
  | v :: r, o, cs => by rw [splice, splice_size r (o + 1)]; simp
theorem splice_out : ∀ (vs : List Value) (o : Nat) (cs : Array Value) (i : Nat), (i < o ∨ o + vs.length ≤ i) → (splice cs o vs)[i]? = cs[i]?
  | [], _, _, _, _ => rfl
  | v :: r, o, cs, i, h => by
    simp only [List.length_cons] at h
    rw [splice, splice_out r (o + 1) _ i (by omega), Array.getElem?_setIfInBounds, if_neg (by omega)]
theorem splice_in : ∀ (vs : List Value) (o : Nat) (cs : Array Value) (j : Nat), j < vs.length → o + vs.length ≤ cs.size → (splice cs o vs)[o + j]? = vs[j]?
  | [], _, _, j, h, _ => absurd h (by simp)
  | v :: r, o, cs, 0, _, h2 => by
    simp only [List.length_cons] at h2
    rw [splice, splice_out r (o + 1) _ _ (by omega), Array.getElem?_setIfInBounds, if_pos (by omega)]
    simp
    omega
  | v :: r, o, cs, j + 1, h, h2 => by
    simp only [List.length_cons] at h h2
    rw [splice, show o + (j + 1) = o + 1 + j by omega, splice_in r (o + 1) _ j (by omega) (by simp; omega)]
    simp
def fCells (m : F4) : List Value := [.int .i64 m.line, .string m.sev, .string m.rule, .string m.text]
/-- A slice of findings; where it is empty nothing is known of its address. -/
def FsAt (w : World) (a : Option Addr) (n : Nat) (fs : Nat → F4) : Prop :=
  0 < n → ∃ b o, a = some ⟨b, o, none⟩ ∧ ∀ i, i < n → w.cell? ⟨b, o + i * 4, none⟩ = some (.int .i64 (fs i).line) ∧ w.cell? ⟨b, o + i * 4 + 1, none⟩ = some (.string (fs i).sev) ∧ w.cell? ⟨b, o + i * 4 + 2, none⟩ = some (.string (fs i).rule) ∧ w.cell? ⟨b, o + i * 4 + 3, none⟩ = some (.string (fs i).text)
theorem FsAt.grow {w w' : World} {a : Option Addr} {n : Nat} {fs : Nat → F4} {B : Nat} (h : FsAt w a n fs) (hb : Below B w w') (hB : w.heap.size ≤ B) : FsAt w' a n fs := by
  intro hp
  obtain ⟨b, o, rfl, hc⟩ := h hp
  refine ⟨b, o, rfl, fun i hi => ?_⟩
  obtain ⟨h1, h2, h3, h4⟩ := hc i hi
  have hl : b < B := Nat.lt_of_lt_of_le (block_lt_of_cell h1) hB
  exact ⟨(hb.cell (p := ⟨b, o + i * 4, none⟩) hl).trans h1, (hb.cell (p := ⟨b, o + i * 4 + 1, none⟩) hl).trans h2, (hb.cell (p := ⟨b, o + i * 4 + 2, none⟩) hl).trans h3, (hb.cell (p := ⟨b, o + i * 4 + 3, none⟩) hl).trans h4⟩
theorem FsAt.drewN {w : World} {a : Option Addr} {n : Nat} {fs : Nat → F4} (h : FsAt w a n fs) (m : Nat) : FsAt (w.drewN m) a n fs := h

/-- A row of findings that the call itself has made, of which those of P are laid. -/
structure RowF (w : World) (g n : Nat) (t : TypeId) (P : Nat → Prop) (fs : Nat → F4) : Prop where
  ex : ∃ arr : Array Value, w.heap[g]? = some (.cells arr t (0, 0)) ∧ arr.size = n * 4 ∧ ∀ i, i < n → P i → arr[i * 4]? = some (.int .i64 (fs i).line) ∧ arr[i * 4 + 1]? = some (.string (fs i).sev) ∧ arr[i * 4 + 2]? = some (.string (fs i).rule) ∧ arr[i * 4 + 3]? = some (.string (fs i).text)
theorem RowF.lt {w : World} {g n : Nat} {t : TypeId} {P : Nat → Prop} {fs : Nat → F4} (h : RowF w g n t P fs) : g < w.heap.size := by
  obtain ⟨arr, hg, _⟩ := h.ex
  exact heap_lt hg
theorem RowF.there {w : World} {g n : Nat} {t : TypeId} {P : Nat → Prop} {fs : Nat → F4} (h : RowF w g n t P fs) (j : Nat) (hj : j < n * 4) : (∃ v, w.cell? ⟨g, j, none⟩ = some v) ∧ w.frozen? ⟨g, j, none⟩ = false := by
  obtain ⟨arr, hg, hs, _⟩ := h.ex
  exact ⟨⟨arr[j], by rw [cell_of_row _ _ _ _ _ _ hg]; simp⟩, frozen_of_row _ _ _ _ _ hg⟩
theorem RowF.grow {w w' : World} {g n : Nat} {t : TypeId} {P : Nat → Prop} {fs : Nat → F4} (h : RowF w g n t P fs) (e : w'.heap[g]? = w.heap[g]?) : RowF w' g n t P fs := by
  obtain ⟨arr, hg, hs, ha⟩ := h
  exact ⟨arr, e.trans hg, hs, ha⟩
theorem RowF.mono {w : World} {g n : Nat} {t : TypeId} {P Q : Nat → Prop} {fs gs : Nat → F4} (h : RowF w g n t P fs) (hq : ∀ i, i < n → Q i → P i ∧ fs i = gs i) : RowF w g n t Q gs := by
  obtain ⟨arr, hg, hs, ha⟩ := h
  refine ⟨arr, hg, hs, fun i hi hQ => ?_⟩
  obtain ⟨hP, e⟩ := hq i hi hQ
  rw [← e]; exact ha i hi hP
theorem RowF.put {w : World} {g n : Nat} {t : TypeId} {P : Nat → Prop} {fs : Nat → F4} (h : RowF w g n t P fs) (k : Nat) (hk : k < n) (m : F4) :
    RowF ((((w.setCell ⟨g, k * 4, none⟩ (.int .i64 m.line)).setCell ⟨g, k * 4 + 1, none⟩ (.string m.sev)).setCell ⟨g, k * 4 + 2, none⟩ (.string m.rule)).setCell ⟨g, k * 4 + 3, none⟩ (.string m.text)) g n t (fun i => P i ∨ i = k) (fun i => if i = k then m else fs i) := by
  obtain ⟨arr, hg, hs, ha⟩ := h
  refine ⟨splice arr (k * 4) (fCells m), heap_setCells_at g t (fCells m) (k * 4) arr w hg, by rw [splice_size]; exact hs, fun i hi hP => ?_⟩
  have hlen : (fCells m).length = 4 := rfl
  by_cases e : i = k
  · subst e
    have h0 := splice_in (fCells m) (i * 4) arr 0 (by rw [hlen]; omega) (by rw [hlen]; omega)
    have h1 := splice_in (fCells m) (i * 4) arr 1 (by rw [hlen]; omega) (by rw [hlen]; omega)
    have h2 := splice_in (fCells m) (i * 4) arr 2 (by rw [hlen]; omega) (by rw [hlen]; omega)
    have h3 := splice_in (fCells m) (i * 4) arr 3 (by rw [hlen]; omega) (by rw [hlen]; omega)
    simp only [if_true]
    exact ⟨h0, h1, h2, h3⟩
  · simp only [if_neg e]
    obtain ⟨h0, h1, h2, h3⟩ := ha i hi (by rcases hP with h | h; exact h; exact absurd h e)
    refine ⟨(splice_out _ _ _ _ (by rw [hlen]; omega)).trans h0, (splice_out _ _ _ _ (by rw [hlen]; omega)).trans h1, (splice_out _ _ _ _ (by rw [hlen]; omega)).trans h2, (splice_out _ _ _ _ (by rw [hlen]; omega)).trans h3⟩
theorem RowF.fs {w : World} {g n m : Nat} {t : TypeId} {P : Nat → Prop} {fs : Nat → F4} (h : RowF w g n t P fs) (hm : m ≤ n) (hP : ∀ i, i < m → P i) : FsAt w (some ⟨g, 0, none⟩) m fs := by
  intro _
  obtain ⟨arr, hg, hs, ha⟩ := h.ex
  refine ⟨g, 0, rfl, fun i hi => ?_⟩
  obtain ⟨h0, h1, h2, h3⟩ := ha i (by omega) (hP i hi)
  rw [Nat.zero_add]
  exact ⟨(cell_of_row _ _ _ _ _ _ hg).trans h0, (cell_of_row _ _ _ _ _ _ hg).trans h1, (cell_of_row _ _ _ _ _ _ hg).trans h2, (cell_of_row _ _ _ _ _ _ hg).trans h3⟩
end Go.Proofs.Qxb6630883a
