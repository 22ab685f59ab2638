import Derived.Test.Qxb6630756aMem
import Derived.Deep.QuietTactic
import Derived.BigQuiet
import Derived.RegionTactic
import Derived.BigRegion
import Derived.Lib.SliceRun
namespace Go.Proofs.Qxb6630756a
open Go.RowKit Plain

/-- What 'next' reads and writes: the set's own block, the powers, the counters. -/
structure WalkAt (w : World) (m : Int) (sb vb ib pb cb n : Nat) (T walked chosen : Int) (ps cs : Nat → Int) : Prop where
  set : w.heap[sb]? = some (.cells (setCellsV m vb ib pb cb n T walked chosen) 56 (0, 0))
  pow : w.heap[pb]? = some (.cells (rowF n ps) 2 (0, 0))
  cnt : w.heap[cb]? = some (.cells (rowF n cs) 2 (0, 0))
  sp : sb ≠ pb
  sc : sb ≠ cb
  pc : pb ≠ cb

theorem WalkAt.c5 {w : World} {m : Int} {sb vb ib pb cb n : Nat} {T walked chosen : Int} {ps cs : Nat → Int} (h : WalkAt w m sb vb ib pb cb n T walked chosen ps cs) : w.cell? ⟨sb, 5, none⟩ = some (.slice (some ⟨pb, 0, none⟩) n n) := by rw [cell_of_row _ _ _ _ _ _ h.set]; rfl
theorem WalkAt.c7 {w : World} {m : Int} {sb vb ib pb cb n : Nat} {T walked chosen : Int} {ps cs : Nat → Int} (h : WalkAt w m sb vb ib pb cb n T walked chosen ps cs) : w.cell? ⟨sb, 7, none⟩ = some (.slice (some ⟨cb, 0, none⟩) n n) := by rw [cell_of_row _ _ _ _ _ _ h.set]; rfl
theorem WalkAt.c6 {w : World} {m : Int} {sb vb ib pb cb n : Nat} {T walked chosen : Int} {ps cs : Nat → Int} (h : WalkAt w m sb vb ib pb cb n T walked chosen ps cs) : w.cell? ⟨sb, 6, none⟩ = some (.int .i64 T) := by rw [cell_of_row _ _ _ _ _ _ h.set]; rfl
theorem WalkAt.c8 {w : World} {m : Int} {sb vb ib pb cb n : Nat} {T walked chosen : Int} {ps cs : Nat → Int} (h : WalkAt w m sb vb ib pb cb n T walked chosen ps cs) : w.cell? ⟨sb, 8, none⟩ = some (.int .i64 walked) := by rw [cell_of_row _ _ _ _ _ _ h.set]; rfl
theorem WalkAt.c9 {w : World} {m : Int} {sb vb ib pb cb n : Nat} {T walked chosen : Int} {ps cs : Nat → Int} (h : WalkAt w m sb vb ib pb cb n T walked chosen ps cs) : w.cell? ⟨sb, 9, none⟩ = some (.int .i64 chosen) := by rw [cell_of_row _ _ _ _ _ _ h.set]; rfl
theorem WalkAt.cp {w : World} {m : Int} {sb vb ib pb cb n : Nat} {T walked chosen : Int} {ps cs : Nat → Int} (h : WalkAt w m sb vb ib pb cb n T walked chosen ps cs) (k : Nat) (hk : k < n) : w.cell? ⟨pb, k, none⟩ = some (.int .i64 (ps k)) := by rw [cell_of_row _ _ _ _ _ _ h.pow]; exact rowF_get _ _ _ hk
theorem WalkAt.cc {w : World} {m : Int} {sb vb ib pb cb n : Nat} {T walked chosen : Int} {ps cs : Nat → Int} (h : WalkAt w m sb vb ib pb cb n T walked chosen ps cs) (k : Nat) (hk : k < n) : w.cell? ⟨cb, k, none⟩ = some (.int .i64 (cs k)) := by rw [cell_of_row _ _ _ _ _ _ h.cnt]; exact rowF_get _ _ _ hk

/-- The counters while a step is under way: the first k have grown. -/
def mid (ps cs : Nat → Int) (k i : Nat) : Int := if i < k then cs i + ps i else cs i

theorem mid_set (n : Nat) (ps cs : Nat → Int) (k : Nat) : (rowF n (mid ps cs k)).setIfInBounds k (.int .i64 (cs k + ps k)) = rowF n (mid ps cs (k + 1)) := by
  rw [rowF_set]
  refine rowF_ext _ _ _ fun i _ => ?_
  unfold mid
  by_cases e : i = k
  · subst e; simp
  · by_cases e2 : i < k
    · simp [e, e2, show i < k + 1 by omega]
    · simp [e, e2, show ¬ i < k + 1 by omega]
theorem WalkAt.grow {w : World} {m : Int} {sb vb ib pb cb n : Nat} {T walked chosen : Int} {ps cs : Nat → Int} {k : Nat} (h : WalkAt w m sb vb ib pb cb n T walked chosen ps (mid ps cs k)) :
    WalkAt (w.setCell ⟨cb, k, none⟩ (.int .i64 (cs k + ps k))) m sb vb ib pb cb n T walked chosen ps (mid ps cs (k + 1)) :=
  ⟨(heap_setCell_other _ _ _ _ h.sc).trans h.set, (heap_setCell_other _ _ _ _ h.pc).trans h.pow, by rw [heap_setCell_same _ _ _ _ _ _ h.cnt, mid_set], h.sp, h.sc, h.pc⟩
theorem WalkAt.drewN {w : World} {m : Int} {sb vb ib pb cb n : Nat} {T walked chosen : Int} {ps cs : Nat → Int} (h : WalkAt w m sb vb ib pb cb n T walked chosen ps cs) (q : Nat) :
    WalkAt (w.drewN q) m sb vb ib pb cb n T walked chosen ps cs := ⟨h.set, h.pow, h.cnt, h.sp, h.sc, h.pc⟩

theorem drew_walkAt {w : World} {m : Int} {sb vb ib pb cb n : Nat} {T walked chosen : Int} {ps cs : Nat → Int} (h : WalkAt w m sb vb ib pb cb n T walked chosen ps cs) :
    WalkAt w.drew m sb vb ib pb cb n T walked chosen ps cs := ⟨h.set, h.pow, h.cnt, h.sp, h.sc, h.pc⟩
theorem set9 (m : Int) (vb ib pb cb n : Nat) (T walked chosen b : Int) : (setCellsV m vb ib pb cb n T walked chosen).setIfInBounds 9 (.int .i64 b) = setCellsV m vb ib pb cb n T walked b := rfl
theorem set8 (m : Int) (vb ib pb cb n : Nat) (T walked chosen b : Int) : (setCellsV m vb ib pb cb n T walked chosen).setIfInBounds 8 (.int .i64 b) = setCellsV m vb ib pb cb n T b chosen := rfl
theorem WalkAt.setChosen {w : World} {m : Int} {sb vb ib pb cb n : Nat} {T walked chosen : Int} {ps cs : Nat → Int} (h : WalkAt w m sb vb ib pb cb n T walked chosen ps cs) (b : Int) :
    WalkAt (w.setCell ⟨sb, 9, none⟩ (.int .i64 b)) m sb vb ib pb cb n T walked b ps cs :=
  ⟨by rw [heap_setCell_same _ _ _ _ _ _ h.set, set9], (heap_setCell_other _ _ _ _ (Ne.symm h.sp)).trans h.pow, (heap_setCell_other _ _ _ _ (Ne.symm h.sc)).trans h.cnt, h.sp, h.sc, h.pc⟩
theorem WalkAt.setWalked {w : World} {m : Int} {sb vb ib pb cb n : Nat} {T walked chosen : Int} {ps cs : Nat → Int} (h : WalkAt w m sb vb ib pb cb n T walked chosen ps cs) (b : Int) :
    WalkAt (w.setCell ⟨sb, 8, none⟩ (.int .i64 b)) m sb vb ib pb cb n T b chosen ps cs :=
  ⟨by rw [heap_setCell_same _ _ _ _ _ _ h.set, set8], (heap_setCell_other _ _ _ _ (Ne.symm h.sp)).trans h.pow, (heap_setCell_other _ _ _ _ (Ne.symm h.sc)).trans h.cnt, h.sp, h.sc, h.pc⟩
theorem WalkAt.setCnt {w : World} {m : Int} {sb vb ib pb cb n : Nat} {T walked chosen : Int} {ps cs : Nat → Int} (h : WalkAt w m sb vb ib pb cb n T walked chosen ps cs) (k : Nat) (v : Int) :
    WalkAt (w.setCell ⟨cb, k, none⟩ (.int .i64 v)) m sb vb ib pb cb n T walked chosen ps (fun i => if i = k then v else cs i) :=
  ⟨(heap_setCell_other _ _ _ _ h.sc).trans h.set, (heap_setCell_other _ _ _ _ h.pc).trans h.pow, by rw [heap_setCell_same _ _ _ _ _ _ h.cnt, rowF_set], h.sp, h.sc, h.pc⟩
theorem WalkAt.congr {w : World} {m : Int} {sb vb ib pb cb n : Nat} {T walked chosen : Int} {ps cs ds : Nat → Int} (h : WalkAt w m sb vb ib pb cb n T walked chosen ps cs) (e : ∀ i, i < n → cs i = ds i) :
    WalkAt w m sb vb ib pb cb n T walked chosen ps ds := ⟨h.set, h.pow, by rw [h.cnt, rowF_ext n cs ds e], h.sp, h.sc, h.pc⟩
theorem next_end {w : World} {m : Int} {sb vb ib pb cb n : Nat} {T walked chosen : Int} {ps c1 : Nat → Int} {b : Nat} (h : WalkAt w m sb vb ib pb cb n T walked chosen ps c1) (_hb : b < n) :
    WalkAt (((w.setCell ⟨cb, b, none⟩ (.int .i64 (c1 b - T))).setCell ⟨sb, 9, none⟩ (.int .i64 b)).setCell ⟨sb, 8, none⟩ (.int .i64 (walked + 1))).drew m sb vb ib pb cb n T (walked + 1) b ps (fun i => if i = b then c1 i - T else c1 i) :=
  drew_walkAt ((((h.setCnt b (c1 b - T)).setChosen b).setWalked (walked + 1)).congr (fun i _ => by by_cases e : i = b <;> simp [e]))
theorem next_turn {w w' : World} {sb cb : Nat} {b : Nat} {x y z : Value} (h : Turn [sb, cb] w w') : Turn [sb, cb] w (((w'.setCell ⟨cb, b, none⟩ x).setCell ⟨sb, 9, none⟩ y).setCell ⟨sb, 8, none⟩ z).drew :=
  (((h.setCell cb b x (by simp)).setCell sb 9 y (by simp)).setCell sb 8 z (by simp)).drewN 1

def NextPost (m : Int) (sb vb ib pb cb n : Nat) (T walked : Int) (ps cs : Nat → Int) (w : World) (e : Ending) (w' : World) : Prop :=
  ∃ b : Nat, b = best (fun i => cs i + ps i) n ∧ e = .returned (.int .i64 b) ∧ WalkAt w' m sb vb ib pb cb n T (walked + 1) b ps (fun i => if i = b then cs i + ps i - T else cs i + ps i) ∧ w'.heap.size = w.heap.size ∧ Turn [sb, cb] w w'
theorem nextPost_mk {w wr : World} {m : Int} {sb vb ib pb cb n : Nat} {T walked chosen : Int} {ps cs : Nat → Int} {b : Nat} (h : WalkAt wr m sb vb ib pb cb n T walked chosen ps (fun i => cs i + ps i)) (hb : b < n)
    (HB : Hid (b = best (fun i => cs i + ps i) n)) (hsz : wr.heap.size = w.heap.size) (htn : Turn [sb, cb] w wr) :
    NextPost m sb vb ib pb cb n T walked ps cs w (.returned (.int .i64 b)) (((wr.setCell ⟨cb, b, none⟩ (.int .i64 (cs b + ps b - T))).setCell ⟨sb, 9, none⟩ (.int .i64 b)).setCell ⟨sb, 8, none⟩ (.int .i64 (walked + 1))).drew :=
  ⟨b, HB.out, rfl, next_end (c1 := fun i => cs i + ps i) h hb, by simpa [World.setCell] using hsz, next_turn htn⟩

set_option maxHeartbeats 1000000 in
theorem next_any (m : Int) (sb vb ib pb cb n : Nat) (T walked chosen : Int) (ps cs : Nat → Int) (w : World) (h : WalkAt w m sb vb ib pb cb n T walked chosen ps cs)
    (hn : 0 < n) (hn2 : n ≤ 4096) (hps : ∀ i, i < n → 0 ≤ ps i ∧ ps i ≤ 65536) (hcs : ∀ i, i < n → -9000000000 ≤ cs i ∧ cs i ≤ 9000000000) (hT : 0 ≤ T ∧ T ≤ 65536) (hw : 0 ≤ walked ∧ walked ≤ 65536) :
    Calls Try.prog 18 #[.pointer (some ⟨sb, 5, none⟩)] w fun e w' => NextPost m sb vb ib pb cb n T walked ps cs w e w' := by
  have h5 := h.c5
  go_enter Try.func18, Try.ntmps18
  go_wp2
  go_loopw [3, 11] (fun bst i wr => ∃ k : Nat, k ≤ n ∧ i = .int .i64 k ∧ bst = .int .i64 (best (fun i => cs i + ps i) k) ∧ WalkAt wr m sb vb ib pb cb n T walked chosen ps (mid ps cs k) ∧ wr.heap.size = w.heap.size ∧ Turn [sb, cb] w wr)
    (fun _ i _ => n - (intOf i).toNat)
  case atStart => exact ⟨0, Nat.zero_le _, rfl, rfl, by rw [show mid ps cs 0 = cs from by funext i; simp [mid]]; exact h, rfl, Turn.refl _ _⟩
  case round =>
    obtain ⟨k, hk, rfl, rfl, hwa, hsz, htn⟩ := hrel
    clear h5 h
    by_cases hlt : k < n
    · have r5 := hwa.c5
      have r7 := hwa.c7
      have rp := hwa.cp k hlt
      have rc : wr.cell? ⟨cb, k, none⟩ = some (.int .i64 (cs k)) := by rw [hwa.cc k hlt]; simp [mid]
      have fz : wr.frozen? ⟨cb, k, none⟩ = false := frozen_of_row _ _ _ _ _ hwa.cnt
      obtain ⟨p0, p1⟩ := hps k hlt
      obtain ⟨q0, q1⟩ := hcs k hlt
      have hg := hwa.grow
      have hs1 : (wr.setCell ⟨cb, k, none⟩ (.int .i64 (cs k + ps k))).heap.size = w.heap.size := by simpa [World.setCell] using hsz
      have ht1 : Turn [sb, cb] w (wr.setCell ⟨cb, k, none⟩ (.int .i64 (cs k + ps k))) := htn.setCell _ _ _ (by simp)
      go_upto_region 6 with fail
      clear r5 r7 rp rc fz hwa htn hsz
      generalize wr.setCell ⟨cb, k, none⟩ (.int .i64 (cs k + ps k)) = W at *
      have r7 := hg.c7
      have rc : W.cell? ⟨cb, k, none⟩ = some (.int .i64 (cs k + ps k)) := by rw [hg.cc k hlt]; simp [mid]
      obtain ⟨bb, hbb⟩ : ∃ bb, bb = best (fun i => cs i + ps i) k := ⟨_, rfl⟩
      have hbk : bb ≤ k := by
        by_cases h0 : k = 0
        · subst h0; rw [hbb]; simp [best]
        · have := best_lt (fun i => cs i + ps i) k (by omega); omega
      have hbn : bb < n := by omega
      have rb : W.cell? ⟨cb, bb, none⟩ = some (.int .i64 (cs bb + ps bb)) := by rw [hg.cc bb hbn]; simp [mid, show bb < k + 1 by omega]
      have HB : Hid (bb = best (fun i => cs i + ps i) k) := hbb
      rw [← hbb]
      have HS : Hid (best (fun i => cs i + ps i) (k + 1) = if cs bb + ps bb < cs k + ps k then k else bb) := by unfold Hid; rw [best, ← hbb]
      clear hbb
      go_quiet (fail)
      go_wp2
      all_goals
        go_roundw
        case rel => exact ⟨k + 1, by omega, by go_num, by rw [HS.out]; first | rw [if_pos (by assumption)] | rw [if_neg (by omega)], hg.drewN _, hs1, ht1.drewN _⟩
        case measure => simp [intOf]; omega
    · obtain rfl : k = n := by omega
      have hgE : WalkAt wr m sb vb ib pb cb k T walked chosen ps (fun i => cs i + ps i) := 
        ⟨hwa.set, hwa.pow, by rw [hwa.cnt]; congr 2; exact rowF_ext _ _ _ (fun i hi => by simp [mid, hi]), hwa.sp, hwa.sc, hwa.pc⟩
      obtain ⟨bb, hbb⟩ : ∃ bb, bb = best (fun i => cs i + ps i) k := ⟨_, rfl⟩
      have hbn : bb < k := by have := best_lt (fun i => cs i + ps i) k (by omega); omega
      have r5 := hgE.c5
      have r6 := hgE.c6
      have r7 := hgE.c7
      have r8 := hgE.c8
      have r9 := hgE.c9
      have sc := hgE.sc
      have rb := hgE.cc bb hbn
      have fz : wr.frozen? ⟨cb, bb, none⟩ = false := frozen_of_row _ _ _ _ _ hgE.cnt
      have fz8 : wr.frozen? ⟨sb, 8, none⟩ = false := frozen_of_row _ _ _ _ _ hgE.set
      have fz9 : wr.frozen? ⟨sb, 9, none⟩ = false := frozen_of_row _ _ _ _ _ hgE.set
      obtain ⟨p0, p1⟩ := hps bb hbn
      obtain ⟨q0, q1⟩ := hcs bb hbn
      obtain ⟨t0, t1⟩ := hT
      obtain ⟨w0, w1⟩ := hw
      have HB : Hid (bb = best (fun i => cs i + ps i) k) := hbb
      rw [← hbb]
      clear hwa hbb hps hcs
      go_wp2
      go_region
      all_goals go_wp2
      go_ret
      exact nextPost_mk hgE hbn HB hsz htn

theorem zero2 (w : World) : (zeroValue 2).run Try.prog w = .ok (.int .i64 0) w := by kernel_rfl
theorem WalkAt.clear {w : World} {m : Int} {sb vb ib pb cb n : Nat} {T walked chosen : Int} {ps cs : Nat → Int} (h : WalkAt w m sb vb ib pb cb n T walked chosen ps cs) :
    WalkAt (w.setCells cb 0 (List.replicate n (.int .i64 0))) m sb vb ib pb cb n T walked chosen ps (fun _ => 0) :=
  ⟨(heap_setCells_off _ _ _ _ _ h.sc).trans h.set, (heap_setCells_off _ _ _ _ _ h.pc).trans h.pow, by
    rw [heap_setCells_at _ _ _ _ _ _ h.cnt, splice_all _ _ (by simp [rowF_size])]
    congr 2
    apply Array.ext_getElem?
    intro i
    by_cases hi : i < n
    · rw [rowF_get _ _ _ hi]; simp [hi]
    · rw [Array.getElem?_eq_none (by simp; omega), Array.getElem?_eq_none (by rw [rowF_size]; omega)], h.sp, h.sc, h.pc⟩

theorem restart_any (m : Int) (sb vb ib pb cb n : Nat) (T walked chosen : Int) (ps cs : Nat → Int) (w : World) (h : WalkAt w m sb vb ib pb cb n T walked chosen ps cs) (hn : 0 < n) :
    Calls Try.prog 17 #[.pointer (some ⟨sb, 5, none⟩)] w fun e w' => e = .returned (.tuple #[]) ∧ WalkAt w' m sb vb ib pb cb n T 0 chosen ps (fun _ => 0) ∧ w'.heap.size = w.heap.size ∧ Turn [sb, cb] w w' := by
  have r7 := h.c7
  have hc : ∀ j, j < n → (w.cell? ⟨cb, 0 + j, none⟩).isSome = true := fun j hj => by rw [Nat.zero_add, h.cc j hj]; rfl
  have hf : ∀ j, j < n → w.frozen? ⟨cb, 0 + j, none⟩ = false := fun j hj => frozen_of_row _ _ _ _ _ h.cnt
  have hcl : ∀ ty, (Builtin.clear_ #[23] ty #[.slice (some ⟨cb, 0, none⟩) n n]).run Try.prog w = .ok (.tuple #[]) (w.setCells cb 0 (List.replicate n (.int .i64 0))) :=
    fun ty => Lib.run_clear_slice w 23 2 ty (.int .i64 0) Try.underlying23 zero2 rfl rfl cb 0 n n hn hc hf
  have hg := h.clear
  have hz := size_setCells cb (List.replicate n (.int .i64 0)) 0 w
  have ht : Turn [sb, cb] w (w.setCells cb 0 (List.replicate n (.int .i64 0))) := Turn.setCells cb (by simp) _ _ (Turn.refl _ _)
  clear hc hf h
  generalize w.setCells cb 0 (List.replicate n (.int .i64 0)) = W at *
  have r8 := hg.c8
  have fz8 : W.frozen? ⟨sb, 8, none⟩ = false := frozen_of_row _ _ _ _ _ hg.set
  go_enter Try.func17, Try.ntmps17
  go_wp2_with (simp only [hcl])
  go_end0
  exact ⟨rfl, hg.setWalked 0, by simpa [World.setCell] using hz, ht.setCell _ _ _ (by simp)⟩
end Go.Proofs.Qxb6630756a
