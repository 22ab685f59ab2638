import Derived.Test.Qxb6630756aProp
import Derived.Test.Qxb6630756aKey
import Derived.Deep.OwnRows
namespace Go.Proofs.Qxb6630756a
open Go.RowKit Go.Maps Plain

/-! ### The row of validators -/
def valCells (s : ByteArray) (i : Nat) (p : Int) : Array Value := #[.string s] ++ addrCells i ++ #[.slice none 0 0, .int .i64 p]
theorem valCells_size (s : ByteArray) (i : Nat) (p : Int) : (valCells s i p).size = 23 := by simp [valCells, addrCells_size]
theorem valCells_one (s : ByteArray) (i : Nat) (p : Int) : AllOne (valCells s i p).toList := by
  intro v hv
  have ha := Array.all_eq_true_iff_forall_mem.1 (addr_one i)
  simp only [valCells, Array.toList_append, List.mem_append] at hv
  rcases hv with (hv | hv) | hv
  · simp only [List.mem_cons, List.not_mem_nil, or_false] at hv; subst hv; rfl
  · exact ha v (by simpa using hv)
  · simp only [List.mem_cons, List.not_mem_nil, or_false] at hv; rcases hv with rfl | rfl <;> rfl

/-- The first k validators of the row are laid. -/
structure ValOk (VC : Array Value) (n k : Nat) (nm : Nat → ByteArray) (ps : Nat → Int) : Prop where
  size : VC.size = n * 23
  one : ∀ v ∈ VC, v.oneCell' = true
  at_ : ∀ i, i < k → VC.extract (i * 23) (i * 23 + 23) = valCells (nm i) i (ps i)

theorem splice_one : ∀ (vs : List Value) (o : Nat) (cs : Array Value), (∀ v ∈ cs, v.oneCell' = true) → AllOne vs → ∀ v ∈ splice cs o vs, v.oneCell' = true
  | [], _, _, h, _ => h
  | u :: r, o, cs, h, h2 => by
    rw [splice]
    refine splice_one r (o + 1) _ (fun v hv => ?_) (fun v hv => h2 v (by simp [hv]))
    rcases Array.mem_or_eq_of_mem_setIfInBounds hv with hv | rfl
    · exact h v hv
    · exact h2 _ (by simp)
theorem ValOk.next {VC : Array Value} {n k : Nat} {nm : Nat → ByteArray} {ps : Nat → Int} (h : ValOk VC n k nm ps) (hk : k < n) :
    ValOk (splice VC (k * 23) (valCells (nm k) k (ps k)).toList) n (k + 1) nm ps := by
  have hlen : (valCells (nm k) k (ps k)).toList.length = 23 := by simp [valCells_size]
  refine ⟨by rw [splice_size]; exact h.size, splice_one _ _ _ h.one (valCells_one _ _ _), fun i hi => ?_⟩
  apply Array.ext_getElem?
  intro j
  have hs := h.size
  by_cases hj : j < 23
  · rw [Array.getElem?_extract, if_pos (by rw [splice_size]; omega)]
    by_cases e : i = k
    · subst e
      rw [splice_in _ _ _ j (by omega) (by omega)]
      simp
    · rw [splice_out _ _ _ _ (by omega)]
      have := congrArg (fun a : Array Value => a[j]?) (h.at_ i (by omega))
      simp only [Array.getElem?_extract] at this
      rw [if_pos (by omega)] at this
      exact this
  · rw [Array.getElem?_eq_none (by simp; omega), Array.getElem?_eq_none (by rw [valCells_size]; omega)]

theorem Try.info37 : (Try.prog.info? 37).map (fun i => (i.zero, i.size, i.bytes)) = some (some (.agg zero23), 23, 72) := by kernel_rfl
theorem Try.info2 : (Try.prog.info? 2).map (fun i => (i.zero, i.size, i.bytes)) = some (some (.int .i64 0), 1, 8) := by kernel_rfl
theorem Try.info3 : (Try.prog.info? 3).map (fun i => (i.zero, i.size, i.bytes)) = some (some (.int .i64 0), 1, 8) := by kernel_rfl
def vals0 (n : Nat) : Array Value := madeCells zero23 (n * 23)
theorem make42 (n : Nat) (hn : n ≤ 4096) (w : World) :
    (Instr.makeSlice 42 (.int .i64 (n : Int)) (.int .i64 (n : Int))).run Try.prog w = .ok (.slice (some ⟨w.heap.size, 0, none⟩) n n) (w.alloc (.cells (vals0 n) 37)) := by
  obtain ⟨i, hi, hzz⟩ := Option.map_eq_some_iff.1 Try.info37
  simp only [Prod.mk.injEq] at hzz
  obtain ⟨hz, hs, hb⟩ := hzz
  have hr := run_make (P := Try.prog) w 42 37 i (.agg zero23) Try.underlying42 hi hz .i64 .i64 n n (by omega) (Int.le_refl _) (by rw [hb]; omega) (by omega)
  simp only [Int.toNat_natCast, hs] at hr
  exact hr
theorem rowF_made (n : Nat) : madeCells #[.int .i64 0] n = rowF n (fun _ => 0) := by
  apply Array.ext_getElem?
  intro i
  by_cases hi : i < n
  · rw [rowF_get _ _ _ hi]; simp [madeCells, hi, Nat.mod_one]
  · rw [Array.getElem?_eq_none (by simp [madeCells]; omega), Array.getElem?_eq_none (by rw [rowF_size]; omega)]
theorem make23 (n : Nat) (hn : n ≤ 65536) (w : World) :
    (Instr.makeSlice 23 (.int .i64 (n : Int)) (.int .i64 (n : Int))).run Try.prog w = .ok (.slice (some ⟨w.heap.size, 0, none⟩) n n) (w.alloc (.cells (rowF n (fun _ => 0)) 2)) := by
  rw [← rowF_made]
  exact run_make_row' 23 2 (.int .i64 0) 8 Try.underlying23 Try.info2 rfl .i64 .i64 n (by omega) (by omega) w
theorem vals0_ok (n : Nat) (nm : Nat → ByteArray) (ps : Nat → Int) : ValOk (vals0 n) n 0 nm ps :=
  ⟨by simp [vals0, madeCells], fun v hv => by
    have hz : ∀ u ∈ zero23, u.oneCell' = true := by
      intro u hu
      have : zero23.all (·.oneCell') = true := by simp [zero23, Value.oneCell']
      exact (Array.all_eq_true_iff_forall_mem.1 this) u hu
    obtain ⟨j, hj⟩ := Array.getElem?_of_mem hv
    simp only [vals0, madeCells, Array.getElem?_map] at hj
    obtain ⟨q, hq, he⟩ := Option.map_eq_some_iff.1 hj
    rw [← he]
    have hlt : q % zero23.size < zero23.size := Nat.mod_lt _ (by decide)
    rw [getElem!_pos zero23 _ hlt]
    exact hz _ (Array.getElem_mem hlt), fun i hi => absurd hi (by omega)⟩

/-- What stands inside a round of zzBuild: so many validators, map entries, powers are laid. -/
structure BuildAt (w wr : World) (n kv km kp : Nat) (nm : Nat → ByteArray) (ps : Nat → Int) : Prop where
  vals : ∃ VC, wr.heap[w.heap.size]? = some (.cells VC 37 (0, 0)) ∧ ValOk VC n kv nm ps
  map : ∃ D : DataW Unit, wr.ownsMap Try.prog 33 (plainElem Try.prog 3) (w.heap.size + 1) km D
  pow : wr.heap[w.heap.size + 2]? = some (.cells (rowF n (fun i => if i < kp then ps i else 0)) 2 (0, 0))
  below : Below w.heap.size w wr
  size : w.heap.size + 3 ≤ wr.heap.size

theorem build_first (w : World) (n : Nat) (nm : Nat → ByteArray) (ps : Nat → Int) :
    BuildAt w (((w.alloc (.cells (vals0 n) 37)).alloc (.map #[] 0)).alloc (.cells (rowF n (fun _ => 0)) 2)) n 0 0 0 nm ps := by
  refine ⟨⟨vals0 n, ?_, vals0_ok n nm ps⟩, ⟨.map [], ?_⟩, ?_, ?_, by simp⟩
  · rw [Below.heap_alloc _ _ _ (by simp; omega), Below.heap_alloc _ _ _ (by simp)]; exact Go.heap_alloc_new _ _
  · have := (World.ownsMap_made (H := Unit) (w.alloc (.cells (vals0 n) 37)) Try.prog 33 (plainElem Try.prog 3)).alloc (.cells (rowF n (fun _ => 0)) 2)
    simpa using this
  · have := Go.heap_alloc_new ((w.alloc (.cells (vals0 n) 37)).alloc (.map #[] 0)) (.cells (rowF n (fun _ => 0)) 2)
    simpa using this
  · exact (((Below.refl _ _).alloc (Nat.le_refl _) _).alloc (by simp) _).alloc (by simp; omega) _

theorem ownsMap_heap {H : Type} {w w' : World} {P : Program} {k : TypeId} {R : Value → Option (DataW H × List MemPlace)} {b n : Nat} {D : DataW H} (h : w.ownsMap P k R b n D) (e : w'.heap[b]? = w.heap[b]?) : w'.ownsMap P k R b n D := by
  obtain ⟨es, cl, h1, h2⟩ := h
  exact ⟨es, cl, e.trans h1, h2⟩

variable {w wr x : World} {n kv km kp k : Nat} {nm : Nat → ByteArray} {ps : Nat → Int}
theorem BuildAt.grow (h : BuildAt w wr n kv km kp nm ps) (hb : Below wr.heap.size wr x) : BuildAt w x n kv km kp nm ps := by
  obtain ⟨⟨VC, hV, hok⟩, ⟨D, hD⟩, hp, hbl, hs⟩ := h
  have e : ∀ k, k < w.heap.size + 3 → x.heap[k]? = wr.heap[k]? := fun k hk => hb.block k (by omega)
  exact ⟨⟨VC, (e _ (by omega)).trans hV, hok⟩, ⟨D, ownsMap_heap hD (e _ (by omega))⟩, (e _ (by omega)).trans hp, hbl.trans (hb.mono (by omega)), by have := hb.size; omega⟩
theorem BuildAt.val (h : BuildAt w wr n k km kp nm ps) (hk : k < n) : BuildAt w (wr.setCells w.heap.size (k * 23) (valCells (nm k) k (ps k)).toList) n (k + 1) km kp nm ps := by
  obtain ⟨⟨VC, hV, hok⟩, ⟨D, hD⟩, hp, hbl, hs⟩ := h
  have e : ∀ j, j ≠ w.heap.size → (wr.setCells w.heap.size (k * 23) (valCells (nm k) k (ps k)).toList).heap[j]? = wr.heap[j]? := fun j hj => heap_setCells_off _ _ _ _ _ hj
  refine ⟨⟨_, heap_setCells_at _ _ _ _ _ _ hV, hok.next hk⟩, ⟨D, ownsMap_heap hD (e _ (by omega))⟩, (e _ (by omega)).trans hp, ?_, by rw [size_setCells]; exact hs⟩
  exact ⟨(os_setCells _ _ _ _).trans hbl.os, (tape_setCells _ _ _ _).trans hbl.tape, (output_setCells _ _ _ _).trans hbl.output, by rw [size_setCells]; exact hbl.size, fun j hj => (e j (by omega)).trans (hbl.block j hj)⟩
theorem BuildAt.put (h : BuildAt w wr n kv km kp nm ps) {D : DataW Unit} {m : Nat} (hD : x.ownsMap Try.prog 33 (plainElem Try.prog 3) (w.heap.size + 1) m D) (hg : wr.grownBy x (some (w.heap.size + 1))) : BuildAt w x n kv m kp nm ps := by
  obtain ⟨⟨VC, hV, hok⟩, _, hp, hbl, hs⟩ := h
  have e : ∀ j, j < w.heap.size + 3 → j ≠ w.heap.size + 1 → x.heap[j]? = wr.heap[j]? := fun j hj hn => hg.block j (by omega) (fun e => hn (by simpa using e))
  exact ⟨⟨VC, (e _ (by omega) (by omega)).trans hV, hok⟩, ⟨D, hD⟩, (e _ (by omega) (by omega)).trans hp, hbl.grown hg (by omega) (fun k hk => by simp at hk; omega), by have := hg.size; omega⟩
theorem BuildAt.power (h : BuildAt w wr n kv km k nm ps) : BuildAt w (wr.setCell ⟨w.heap.size + 2, k, none⟩ (.int .i64 (ps k))) n kv km (k + 1) nm ps := by
  obtain ⟨⟨VC, hV, hok⟩, ⟨D, hD⟩, hp, hbl, hs⟩ := h
  have e : ∀ j, j ≠ w.heap.size + 2 → (wr.setCell ⟨w.heap.size + 2, k, none⟩ (.int .i64 (ps k))).heap[j]? = wr.heap[j]? := fun j hj => heap_setCell_other _ _ _ _ hj
  refine ⟨⟨VC, (e _ (by omega)).trans hV, hok⟩, ⟨D, ownsMap_heap hD (e _ (by omega))⟩, ?_, hbl.setCell (by simp) _, by simpa [World.setCell] using hs⟩
  rw [heap_setCell_same _ _ _ _ _ _ hp, rowF_set]
  congr 2
  refine rowF_ext _ _ _ fun i _ => ?_
  by_cases e1 : i = k
  · subst e1; simp
  · by_cases e2 : i < k
    · simp [e1, e2, show i < k + 1 by omega]
    · simp [e1, e2, show ¬ i < k + 1 by omega]

end Go.Proofs.Qxb6630756a
