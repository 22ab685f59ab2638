import Derived.Test.Qxb6630823aMemb
import Derived.Test.Qxb6630823aIn
namespace Go.Proofs.Qxb6630823a
open Go.RowKit

structure LawPost (w : World) (e : Ending) (w' : World) : Prop where
  ret : e = .returned (.bool true)
  below : Below w.heap.size w w'

structure Box (W : World) (g : Nat) (vs : Array Value) (t : TypeId) : Prop where
  at_ : W.heap[g]? = some (.cells vs t (0, 0))
theorem box_new (y : World) (vs : Array Value) (t : TypeId) : Box (y.alloc (Obj.cells vs t)) y.heap.size vs t := ⟨Go.heap_alloc_new _ _⟩
theorem Box.grow {W W' : World} {g : Nat} {vs : Array Value} {t : TypeId} (h : Box W g vs t) (hb : Below W.heap.size W W') : Box W' g vs t := ⟨(hb.block _ (heap_lt h.at_)).trans h.at_⟩
theorem Box.cell {W : World} {g : Nat} {vs : Array Value} {t : TypeId} (h : Box W g vs t) (j : Nat) (v : Value) (hv : vs[j]? = some v) : W.cell? ⟨g, j, none⟩ = some v := by
  rw [cell_of_row _ _ _ _ _ _ h.at_]; exact hv
theorem Box.set {W : World} {b g : Nat} {vs : Array Value} {t : TypeId} (h : Box W b vs t) (hn : b ≠ g) (o : Nat) (v : Value) : Box (W.setCell ⟨g, o, none⟩ v) b vs t :=
  ⟨(heap_setCell_other _ _ _ _ hn).trans h.at_⟩
theorem Box.put {W : World} {g : Nat} {vs : Array Value} {t : TypeId} (h : Box W g vs t) (o : Nat) (v : Value) : Box (W.setCell ⟨g, o, none⟩ v) g (vs.setIfInBounds o v) t :=
  ⟨heap_setCell_same _ _ _ _ _ _ h.at_⟩
theorem below_step {w y z : World} (h : Below w.heap.size w y) (hb : Below y.heap.size y z) : Below w.heap.size w z := h.trans (hb.mono h.size)
theorem below_alloc (y : World) (o : Obj) : Below y.heap.size y (y.alloc o) := (Below.refl _ _).alloc (Nat.le_refl _) _
theorem cell_of_block {w w' : World} {b : Nat} (h : w'.heap[b]? = w.heap[b]?) (o : Nat) : w'.cell? ⟨b, o, none⟩ = w.cell? ⟨b, o, none⟩ := by simp [World.cell?, h]
theorem MemsAt.set {w : World} {b o0 n : Nat} {ms : Nat → M3} (h : MemsAt w (some ⟨b, o0, none⟩) n ms) {g : Nat} (hn : b ≠ g) (o : Nat) (v : Value) : MemsAt (w.setCell ⟨g, o, none⟩ v) (some ⟨b, o0, none⟩) n ms := by
  intro hp
  obtain ⟨b', o', e, hc⟩ := h hp
  cases e
  have hb : (w.setCell ⟨g, o, none⟩ v).heap[b]? = w.heap[b]? := heap_setCell_other _ _ _ _ hn
  refine ⟨b, o0, rfl, fun i hi => ?_⟩
  obtain ⟨c0, c1, c2⟩ := hc i hi
  exact ⟨(cell_of_block hb _).trans c0, (cell_of_block hb _).trans c1, (cell_of_block hb _).trans c2⟩
theorem memb_ret {r : M3 × Bool} {x : M3} {b : Bool} {w w' : World} {e : Ending} (h : MembPost r w e w') (hr : r = (x, b)) : e = .returned (.tuple #[.agg #[.string x.id, .string x.peer, .string x.client], .bool b]) ∧ Below w.heap.size w w' := by
  subst hr
  exact ⟨h.ret, h.below⟩
theorem look_of_has {ms : Nat → M3} {id : ByteArray} {n : Nat} (h : hasB ms id n = false) : look ms id n = none := by
  rw [hasB_look] at h
  cases e : look ms id n with
  | none => rfl
  | some x => rw [e] at h; cases h
theorem eqS_swap {a b : ByteArray} (h : (a.toList == b.toList) = false) : eqS b a = false := by
  simp only [beq_eq_false_iff_ne, ne_eq] at h
  simp only [eqS, beq_eq_false_iff_ne, ne_eq]
  exact fun e => h e.symm
end Go.Proofs.Qxb6630823a
