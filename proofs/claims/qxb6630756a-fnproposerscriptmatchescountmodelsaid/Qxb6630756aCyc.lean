import Derived.Test.Qxb6630756aBuildW
namespace Go.Proofs.Qxb6630756a
open Go.RowKit Go.Maps Plain

/-! ### From the list of powers to the plain law's function -/
def pw (zs : List Int) (i : Nat) : Int := zs.getD i 0
theorem sumF_take (zs : List Int) : ∀ k, k ≤ zs.length → sumF (pw zs) k = sumL (zs.take k)
  | 0, _ => by simp [sumF, sumL]
  | k + 1, h => by
    rw [sumF, sumF_take zs k (by omega), take_snoc zs k (by omega), sumL_append]
    simp [sumL, pw]
theorem sumF_pw (zs : List Int) : sumF (pw zs) zs.length = sumL zs := by
  rw [sumF_take zs _ (Nat.le_refl _)]; simp
theorem pw_pos {zs : List Int} (h : OkPow zs) (i : Nat) (hi : i < zs.length) : 1 ≤ pw zs i := by
  apply h.1
  unfold pw
  rw [List.getD_eq_getElem?_getD, List.getElem?_eq_getElem hi]
  exact List.getElem_mem hi
theorem sumF_ge (f : Nat → Int) : ∀ k, (∀ i, i < k → 1 ≤ f i) → (k : Int) ≤ sumF f k ∧ ∀ i, i < k → f i ≤ sumF f k
  | 0, _ => ⟨by simp [sumF], fun i hi => absurd hi (by omega)⟩
  | k + 1, h => by
    obtain ⟨h1, h2⟩ := sumF_ge f k (fun i hi => h i (by omega))
    have h3 := h k (by omega)
    refine ⟨by rw [sumF]; omega, fun i hi => ?_⟩
    rw [sumF]
    by_cases e : i = k
    · subst e; omega
    · have := h2 i (by omega); omega
theorem pw_le {zs : List Int} (h : OkPow zs) (i : Nat) (hi : i < zs.length) : 0 ≤ pw zs i ∧ pw zs i ≤ 65536 := by
  have h1 := (sumF_ge (pw zs) zs.length (fun i hi => pw_pos h i hi)).2 i hi
  rw [sumF_pw] at h1
  have h2 := pw_pos h i hi
  have h3 := h.2
  omega

/-- Entry (height + j - 1 + round) mod N is entry (s + j) mod N. -/
theorem pos_at (height round T : Int) (N s j : Nat) (hN : T = N) (_hN0 : 0 < N) (_hh : 1 ≤ height) (_hr : 0 ≤ round) (hs : ((height - 1) % T + round % T) % T = s) :
    ((height + j - 1) % T + round % T) % T = ((s + j) % N : Nat) := by
  subst hN
  have e1 : ((s + j : Nat) % N : Nat) = (((s : Int) + j) % (N : Int)) := by simp
  rw [Int.natCast_emod] at *
  rw [← Int.add_emod] at *
  rw [show height + (j : Int) - 1 + round = (height - 1 + round) + j by omega]
  rw [Int.add_emod, hs]
  push_cast
  rw [← Int.add_emod_right]
  simp

/-! ### The law's memory -/
structure LawAt (w wr : World) (sb vb ib pb cb qb n kw : Nat) (T ch : Int) (ps : Nat → Int) (VC : Array Value) (q : Nat → Int) : Prop where
  set : SetAt wr 0 sb vb ib pb cb n T kw ch ps (Plain.cnt ps T n kw) VC
  chosen : 1 ≤ kw → ch = sq ps T n (kw - 1)
  cnts : wr.heap[qb]? = some (.cells (rowF n q) 2 (0, 0))
  below : Below w.heap.size w wr
  ns : w.heap.size ≤ sb
  nc : w.heap.size ≤ cb
  nq : w.heap.size ≤ qb
  qs : qb ≠ sb
  qc : qb ≠ cb
  qv : qb ≠ vb
  qp : qb ≠ pb
theorem SetAt.grow {w x : World} {m : Int} {sb vb ib pb cb n : Nat} {T walked chosen : Int} {ps cs : Nat → Int} {VC : Array Value} (h : SetAt w m sb vb ib pb cb n T walked chosen ps cs VC)
    (e : ∀ k, k < w.heap.size → k = sb ∨ k = pb ∨ k = cb ∨ k = vb → x.heap[k]? = w.heap[k]?) : SetAt x m sb vb ib pb cb n T walked chosen ps cs VC :=
  ⟨⟨(e _ (heap_lt h.walk.set) (by simp)).trans h.walk.set, (e _ (heap_lt h.walk.pow) (by simp)).trans h.walk.pow, (e _ (heap_lt h.walk.cnt) (by simp)).trans h.walk.cnt, h.walk.sp, h.walk.sc, h.walk.pc⟩,
    (e _ (heap_lt h.vals) (by simp)).trans h.vals, h.vs, h.vc⟩
theorem LawAt.grow {w wr x : World} {sb vb ib pb cb qb n kw : Nat} {T ch : Int} {ps : Nat → Int} {VC : Array Value} {q : Nat → Int} (h : LawAt w wr sb vb ib pb cb qb n kw T ch ps VC q) (hb : Below wr.heap.size wr x) :
    LawAt w x sb vb ib pb cb qb n kw T ch ps VC q :=
  ⟨h.set.grow (fun k hk _ => hb.block k hk), h.chosen, (hb.block _ (heap_lt h.cnts)).trans h.cnts, h.below.trans (hb.mono h.below.size), h.ns, h.nc, h.nq, h.qs, h.qc, h.qv, h.qp⟩
theorem LawAt.ask {w wr x : World} {sb vb ib pb cb qb n kw p : Nat} {T ch : Int} {ps : Nat → Int} {VC : Array Value} {q : Nat → Int} {e : Ending} (h : LawAt w wr sb vb ib pb cb qb n kw T ch ps VC q) (hp : PropPost sb vb ib pb cb n p T ps VC wr e x) :
    LawAt w x sb vb ib pb cb qb n (p + 1) T (sq ps T n p) ps VC q :=
  ⟨hp.set, fun _ => rfl, (hp.turn.block _ (heap_lt h.cnts) (by simp [h.qs, h.qc])).trans h.cnts, Turn.below h.below hp.turn (by simp; exact ⟨h.ns, h.nc⟩), h.ns, h.nc, h.nq, h.qs, h.qc, h.qv, h.qp⟩
theorem LawAt.count {w wr : World} {sb vb ib pb cb qb n kw : Nat} {T ch : Int} {ps : Nat → Int} {VC : Array Value} {q : Nat → Int} (h : LawAt w wr sb vb ib pb cb qb n kw T ch ps VC q) (i : Nat) (v : Int) :
    LawAt w (wr.setCell ⟨qb, i, none⟩ (.int .i64 v)) sb vb ib pb cb qb n kw T ch ps VC (fun j => if j = i then v else q j) :=
  ⟨h.set.grow (fun k _ hk => heap_setCell_other _ _ _ _ (by have := h.qs; have := h.qc; have := h.qv; have := h.qp; simp; omega)), h.chosen, by rw [heap_setCell_same _ _ _ _ _ _ h.cnts, rowF_set], h.below.setCell h.nq _, h.ns, h.nc, h.nq, h.qs, h.qc, h.qv, h.qp⟩
theorem LawAt.draw {w wr : World} {sb vb ib pb cb qb n kw : Nat} {T ch : Int} {ps : Nat → Int} {VC : Array Value} {q : Nat → Int} (h : LawAt w wr sb vb ib pb cb qb n kw T ch ps VC q) (m : Nat) :
    LawAt w (wr.drewN m) sb vb ib pb cb qb n kw T ch ps VC q := h.grow ⟨rfl, rfl, rfl, Nat.le_refl _, fun _ _ => rfl⟩
theorem LawAt.congr {w wr : World} {sb vb ib pb cb qb n kw : Nat} {T ch : Int} {ps : Nat → Int} {VC : Array Value} {q r : Nat → Int} (h : LawAt w wr sb vb ib pb cb qb n kw T ch ps VC q) (e : ∀ i, i < n → q i = r i) :
    LawAt w wr sb vb ib pb cb qb n kw T ch ps VC r := ⟨h.set, h.chosen, by rw [h.cnts, rowF_ext n q r e], h.below, h.ns, h.nc, h.nq, h.qs, h.qc, h.qv, h.qp⟩

/-! ### A validator handed back, boxed and looked at -/
theorem st37_new (x : World) (C : Array Value) (E : List Value) (hC : C.size = 23) (hl : E.length = 23) (h1 : AllOne E) :
    (stSem 37 (.pointer (some ⟨x.heap.size, 0, none⟩)) (.agg E.toArray)).run Try.prog (x.alloc (.cells C 37)) = .ok () (x.alloc (.cells E.toArray 37)) := by
  have hr := run_storeVar_row (P := Try.prog) (x.alloc (.cells C 37)) x.heap.size 37 37 C E.toArray (Go.heap_alloc_new x _) (by rw [Try.size37]; simp [hl]) (by simp [hC, hl]) (all_oneCell_toArray h1)
  have e : (x.alloc (.cells C 37)).setRow x.heap.size E.toArray = x.alloc (.cells E.toArray 37) := by
    have hh : ((x.alloc (.cells C 37)).setRow x.heap.size E.toArray).heap = (x.alloc (.cells E.toArray 37)).heap := by
      apply Array.ext_getElem?
      intro i
      by_cases h : i = x.heap.size
      · subst h
        rw [setRow_heap _ _ C _ _ _ (Go.heap_alloc_new x _)]
        exact (Go.heap_alloc_new x _).symm
      · rw [setRow_other _ _ _ _ h]
        show (x.heap.push _)[i]? = (x.heap.push _)[i]?
        rw [Array.getElem?_push, Array.getElem?_push, if_neg h, if_neg h]
    show World.mk _ _ _ _ _ = World.mk _ _ _ _ _
    rw [World.mk.injEq]
    exact ⟨hh, rfl, rfl, rfl, rfl⟩
  unfold stSem
  simp only [Instr.storeAt, Instr.sureAddr, Sem.run_bind, Sem.run_pure, Result.andThen_ok, hr, e]
end Go.Proofs.Qxb6630756a
