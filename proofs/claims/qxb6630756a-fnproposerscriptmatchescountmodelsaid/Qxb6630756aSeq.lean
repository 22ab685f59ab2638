import Derived.Test.Qxb6630756aCycW
namespace Go.Proofs.Qxb6630756a
open Go.RowKit Plain

/-! ### zzPos -/
theorem pos_mod (a b T : Int) (_h0 : 0 < T) (ha : 0 ≤ a) (ha2 : a < T) (hb : 0 ≤ b) (hb2 : b < T) : (a + b) % T = if T ≤ a + b then a + b - T else a + b := by
  split
  · have : (a + b) % T = (a + b - T) % T := by rw [Int.sub_emod_right]
    rw [this]; exact Int.emod_eq_of_lt (by omega) (by omega)
  · exact Int.emod_eq_of_lt (by omega) (by omega)
theorem pos_any (height round T : Int) (p : Nat) (w : World) (hh : 1 ≤ height) (hh2 : height ≤ 9223372036854775807) (hr : 0 ≤ round) (hr2 : round ≤ 2147483647) (t0 : 0 < T) (t1 : T ≤ 65536)
    (hp : ((height - 1) % T + round % T) % T = p) :
    Calls Try.prog 10 #[.int .i64 height, .int .i32 round, .int .i64 T] w fun e w' => e = .returned (.int .i64 p) ∧ w' = w := by
  have m1 := Int.emod_nonneg (height - 1) (show T ≠ 0 by omega)
  have m2 := Int.emod_lt_of_pos (height - 1) t0
  have m3 := Int.emod_nonneg round (show T ≠ 0 by omega)
  have m4 := Int.emod_lt_of_pos round t0
  have HP : Hid (((height - 1) % T + round % T) % T = p) := hp
  have HM : Hid (((height - 1) % T + round % T) % T = if T ≤ (height - 1) % T + round % T then (height - 1) % T + round % T - T else (height - 1) % T + round % T) := pos_mod _ _ T t0 m1 m2 m3 m4
  clear hp
  by_cases hc : T ≤ (height - 1) % T + round % T
  · go_enter Try.func10, Try.ntmps10
    go_wp2
    go_ret
    have h1 := HM.out
    rw [if_pos hc, HP.out] at h1
    exact ⟨ret_int h1.symm, rfl⟩
  · go_enter Try.func10, Try.ntmps10
    go_wp2
    go_ret
    have h1 := HM.out
    rw [if_neg (by omega), HP.out] at h1
    exact ⟨ret_int h1.symm, rfl⟩

/-! ### zzSequence -/
structure SeqPost (N n : Nat) (T : Int) (ps : Nat → Int) (w : World) (e : Ending) (w' : World) : Prop where
  ex : ∃ g, w.heap.size ≤ g ∧ e = .returned (.slice (some ⟨g, 0, none⟩) N N) ∧ w'.heap[g]? = some (.cells (rowF N (fun k => sq ps T n k)) 3 (0, 0))
  below : Below w.heap.size w w'
structure SeqAt (w wr : World) (N n k : Nat) (T : Int) (ps : Nat → Int) : Prop where
  cnts : wr.heap[w.heap.size]? = some (.cells (rowF n (counts ps T n k)) 2 (0, 0))
  seq : wr.heap[w.heap.size + 1]? = some (.cells (rowF N (fun j => if j < k then sq ps T n j else 0)) 3 (0, 0))
  below : Below w.heap.size w wr
theorem seq_first (w : World) (N n : Nat) (T : Int) (ps : Nat → Int) : SeqAt w ((w.alloc (.cells (rowF n (fun _ => 0)) 2)).alloc (.cells (rowF N (fun _ => 0)) 3)) N n 0 T ps :=
  ⟨by rw [Below.heap_alloc _ _ _ (by simp)]; exact Go.heap_alloc_new _ _, by
    have := Go.heap_alloc_new (w.alloc (.cells (rowF n (fun _ => 0)) 2)) (.cells (rowF N (fun _ => 0)) 3)
    simpa using this, ((Below.refl _ _).alloc (Nat.le_refl _) _).alloc (by simp) _⟩
theorem SeqAt.drewN {w wr : World} {N n k : Nat} {T : Int} {ps : Nat → Int} (h : SeqAt w wr N n k T ps) (m : Nat) : SeqAt w (wr.drewN m) N n k T ps :=
  ⟨h.cnts, h.seq, ⟨h.below.os, h.below.tape, h.below.output, h.below.size, h.below.block⟩⟩
theorem SeqAt.next {w wr : World} {N n k c : Nat} {T : Int} {ps : Nat → Int} (h : SeqAt w wr N n k T ps) (HC : Hid (c = sq ps T n k)) :
    SeqAt w ((wr.setCell ⟨w.heap.size, c, none⟩ (.int .i64 (counts ps T n k c + 1))).setCell ⟨w.heap.size + 1, k, none⟩ (.int .i64 c)) N n (k + 1) T ps := by
  refine ⟨?_, ?_, (h.below.setCell (Nat.le_refl _) _).setCell (by simp) _⟩
  · rw [heap_setCell_other _ _ _ _ (by simp), heap_setCell_same _ _ _ _ _ _ h.cnts, rowF_set]
    congr 2
    refine rowF_ext _ _ _ fun i _ => ?_
    rw [counts_succ, ← HC.out]
    by_cases e : i = c
    · subst e; simp
    · simp [e]
  · rw [heap_setCell_same _ _ _ _ _ _ ((heap_setCell_other _ _ _ _ (by simp)).trans h.seq), rowF_set]
    congr 2
    refine rowF_ext _ _ _ fun i _ => ?_
    by_cases e : i = k
    · subst e; rw [HC.out]; simp
    · by_cases e2 : i < k
      · simp [e, e2, show i < k + 1 by omega]
      · simp [e, e2, show ¬ i < k + 1 by omega]
theorem make30 (n : Nat) (hn : n ≤ 65536) (w : World) :
    (Instr.makeSlice 30 (.int .i64 (n : Int)) (.int .i64 (n : Int))).run Try.prog w = .ok (.slice (some ⟨w.heap.size, 0, none⟩) n n) (w.alloc (.cells (rowF n (fun _ => 0)) 3)) := by
  rw [← rowF_made]
  exact run_make_row' 30 3 (.int .i64 0) 8 Try.underlying30 Try.info3 rfl .i64 .i64 n (by omega) (by omega) w
theorem prod_bd (ps : Nat → Int) (T : Int) (n k N i : Nat) (hT : T = N) (hN1 : N ≤ 65536) (hk : k < N) (hp : 0 ≤ ps i ∧ ps i ≤ 65536) :
    0 ≤ ((k : Int) + 1) * ps i ∧ ((k : Int) + 1) * ps i ≤ 4294967296 ∧ 0 ≤ T * counts ps T n k i ∧ T * counts ps T n k i ≤ 4294967296 := by
  have hc := counts_bd ps T n k i
  refine ⟨Int.mul_nonneg (by omega) hp.1, ?_, Int.mul_nonneg (by omega) hc.1, ?_⟩
  · have h2 : ((k : Int) + 1) * ps i ≤ 65536 * 65536 := Int.mul_le_mul (by omega) hp.2 hp.1 (by omega)
    omega
  · have h4 : T * counts ps T n k i ≤ 65536 * 65536 := Int.mul_le_mul (by omega) (by omega) hc.1 (by omega)
    omega

def fV (ps : Nat → Int) (T : Int) (n k i : Nat) : Int := ((k : Int) + 1) * ps i - T * counts ps T n k i
theorem sq_fV (ps : Nat → Int) (T : Int) (n k : Nat) : sq ps T n k = best (fV ps T n k) n := rfl

set_option maxHeartbeats 2000000 in
theorem seq_any (b off c n N : Nat) (T : Int) (ps : Nat → Int) (w : World) (hn : 0 < n) (hn2 : n ≤ 4096) (hT : T = N) (hN0 : 0 < N) (hN1 : N ≤ 65536)
    (hps : ∀ i, i < n → w.cell? ⟨b, off + i, none⟩ = some (.int .i64 (ps i))) (hpl : ∀ i, i < n → 0 ≤ ps i ∧ ps i ≤ 65536) :
    Calls Try.prog 8 #[.slice (some ⟨b, off, none⟩) n c, .int .i64 T] w fun e w' => SeqPost N n T ps w e w' := by
  have h23 := make23 n (by omega)
  have h30 := make30 N hN1
  subst hT
  go_enter Try.func8, Try.ntmps8
  go_wp2_with fail
  go_loopg [8, 9, 10, 11, 12] N (fun g k _ _ _ _ wr => ∃ j : Nat, j + g = N ∧ k = .int .i64 j ∧ SeqAt w wr N n j N ps)
  case atStart => exact ⟨0, by omega, rfl, seq_first w N n N ps⟩
  case round =>
    obtain ⟨k, hk, rfl, hs⟩ := hrel
    clear h23 h30
    by_cases hlt : k < N
    · have hc0 : wr.cell? ⟨w.heap.size, 0, none⟩ = some (.int .i64 (counts ps N n k 0)) := by rw [cell_of_row _ _ _ _ _ _ hs.cnts]; exact rowF_get _ _ _ hn
      have hp0 : wr.cell? ⟨b, off, none⟩ = some (.int .i64 (ps 0)) := (hs.below.cell (block_lt_of_cell (hps 0 hn))).trans (hps 0 hn)
      obtain ⟨a0, a1, a2, a3⟩ := prod_bd ps N n k N 0 rfl hN1 hlt (hpl 0 hn)
      have d1 : (0 : Int) < (n : Int) := by omega
      have HPS : Hid (∀ i, i < n → w.cell? ⟨b, off + i, none⟩ = some (.int .i64 (ps i))) := hps
      have HPL : Hid (∀ i, i < n → 0 ≤ ps i ∧ ps i ≤ 65536) := hpl
      clear hps hpl
      go_wp2_with fail
      go_quiet (fail)
      go_wp2_with fail
      have hs1 := hs.drewN nq
      generalize wr.drewN nq = W at *
      clear hs hc0 hp0 a0 a1 a2 a3
      go_loopg [9, 10, 11, 12] (n - 1) (fun g bb bv i _ wx => ∃ m : Nat, 1 ≤ m ∧ m + g = n ∧ i = .int .i64 m ∧ bb = .int .i64 (best (fV ps N n k) m) ∧ bv = .int .i64 (fV ps N n k (best (fV ps N n k) m)) ∧ SeqAt w wx N n k N ps)
      case atStart => exact ⟨1, by omega, by omega, rfl, by simp [best], by simp [best, fV], hs1⟩
      case round =>
        clear hs1
        obtain ⟨m, hm1, hm, rfl, rfl, rfl, hs⟩ := hrel
        obtain ⟨bb, hbb⟩ : ∃ bb, bb = best (fV ps N n k) m := ⟨_, rfl⟩
        have hbm : bb < m := by rw [hbb]; exact best_lt _ _ (by omega)
        rw [← hbb]
        by_cases hlt2 : m < n
        · have vp : wr.cell? ⟨b, off + m, none⟩ = some (.int .i64 (ps m)) := (hs.below.cell (block_lt_of_cell (HPS.out m hlt2))).trans (HPS.out m hlt2)
          have vq : wr.cell? ⟨w.heap.size, m, none⟩ = some (.int .i64 (counts ps N n k m)) := by rw [cell_of_row _ _ _ _ _ _ hs.cnts]; exact rowF_get _ _ _ hlt2
          obtain ⟨a0, a1, a2, a3⟩ := prod_bd ps N n k N m rfl hN1 hlt (HPL.out m hlt2)
          have d2 : (0 : Int) ≤ (m : Int) := by omega
          have d3 : (m : Int) < (n : Int) := by omega
          have HB : Hid (best (fV ps N n k) (m + 1) = if fV ps N n k bb < ((k : Int) + 1) * ps m - N * counts ps N n k m then m else bb) := by unfold Hid; rw [best, ← hbb]; rfl
          clear hbb
          go_wp2_with fail
          go_quiet (fail)
          go_wp2_with fail
          all_goals
            go_roundg (n - (m + 1))
            case measure => omega
            case rel => 
              first
              | exact ⟨m + 1, by omega, by omega, by go_num, by rw [HB.out, if_pos (by assumption)], by rw [HB.out, if_pos (by assumption)]; rfl, hs.drewN _⟩
              | exact ⟨m + 1, by omega, by omega, by go_num, by rw [HB.out, if_neg (by omega)], by rw [HB.out, if_neg (by omega)], hs.drewN _⟩
        · obtain rfl : m = n := by omega
          have vq : wr.cell? ⟨w.heap.size, bb, none⟩ = some (.int .i64 (counts ps N m k bb)) := by rw [cell_of_row _ _ _ _ _ _ hs.cnts]; exact rowF_get _ _ _ hbm
          have vf : wr.frozen? ⟨w.heap.size, bb, none⟩ = false := frozen_of_row _ _ _ _ _ hs.cnts
          have vs : wr.cell? ⟨w.heap.size + 1, k, none⟩ = some (.int .i64 0) := by rw [cell_of_row _ _ _ _ _ _ hs.seq, rowF_get _ _ _ hlt]; simp
          have vg : wr.frozen? ⟨w.heap.size + 1, k, none⟩ = false := frozen_of_row _ _ _ _ _ hs.seq
          obtain ⟨cb0, cb1⟩ := counts_bd ps N m k bb
          have HB : Hid (bb = sq ps N m k) := hbb
          clear hbb
          go_wp2_with fail
          go_roundg (N - (k + 1))
          case measure => omega
          case rel => exact ⟨k + 1, by omega, by go_num, hs.next HB⟩
    · obtain rfl : k = N := by omega
      go_wp2_with fail
      go_ret
      exact ⟨⟨w.heap.size + 1, by omega, rfl, by rw [hs.seq]; congr 2; exact rowF_ext _ _ _ (fun i hi => by simp [hi])⟩, hs.below⟩
end Go.Proofs.Qxb6630756a
