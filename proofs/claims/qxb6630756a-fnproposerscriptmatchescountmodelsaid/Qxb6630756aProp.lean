import Derived.Test.Qxb6630756aNext
import Derived.Test.Qxb6630756aLocks
import Derived.Conc.MuLone
import Derived.Deep.RegionHeld3
import Derived.Deep.LoopGhost
namespace Go.Proofs.Qxb6630756a
open Go.RowKit Go.MuLone Plain

structure SetAt (w : World) (m : Int) (sb vb ib pb cb n : Nat) (T walked chosen : Int) (ps cs : Nat → Int) (VC : Array Value) : Prop where
  walk : WalkAt w m sb vb ib pb cb n T walked chosen ps cs
  vals : w.heap[vb]? = some (.cells VC 37 (0, 0))
  vs : vb ≠ sb
  vc : vb ≠ cb

theorem heap_lt {w : World} {k : Nat} {o : Obj} (h : w.heap[k]? = some o) : k < w.heap.size := (Array.getElem?_eq_some_iff.1 h).1
theorem WalkAt.alloc {w : World} {m : Int} {sb vb ib pb cb n : Nat} {T walked chosen : Int} {ps cs : Nat → Int} (h : WalkAt w m sb vb ib pb cb n T walked chosen ps cs) (o : Obj) :
    WalkAt (w.alloc o) m sb vb ib pb cb n T walked chosen ps cs :=
  ⟨(Below.heap_alloc _ _ _ (heap_lt h.set)).trans h.set, (Below.heap_alloc _ _ _ (heap_lt h.pow)).trans h.pow, (Below.heap_alloc _ _ _ (heap_lt h.cnt)).trans h.cnt, h.sp, h.sc, h.pc⟩
theorem set3 (m m' : Int) (vb ib pb cb n : Nat) (T walked chosen : Int) : (setCellsV m vb ib pb cb n T walked chosen).setIfInBounds 3 (.int .i32 m') = setCellsV m' vb ib pb cb n T walked chosen := rfl
theorem WalkAt.setMu {w : World} {m : Int} {sb vb ib pb cb n : Nat} {T walked chosen : Int} {ps cs : Nat → Int} (h : WalkAt w m sb vb ib pb cb n T walked chosen ps cs) (m' : Int) :
    WalkAt (w.setCell ⟨sb, 3, none⟩ (.int .i32 m')) m' sb vb ib pb cb n T walked chosen ps cs :=
  ⟨by rw [heap_setCell_same _ _ _ _ _ _ h.set, set3], (heap_setCell_other _ _ _ _ (Ne.symm h.sp)).trans h.pow, (heap_setCell_other _ _ _ _ (Ne.symm h.sc)).trans h.cnt, h.sp, h.sc, h.pc⟩
theorem WalkAt.c3 {w : World} {m : Int} {sb vb ib pb cb n : Nat} {T walked chosen : Int} {ps cs : Nat → Int} (h : WalkAt w m sb vb ib pb cb n T walked chosen ps cs) : w.cell? ⟨sb, 3, none⟩ = some (.int .i32 m) := by rw [cell_of_row _ _ _ _ _ _ h.set]; rfl
theorem WalkAt.c0 {w : World} {m : Int} {sb vb ib pb cb n : Nat} {T walked chosen : Int} {ps cs : Nat → Int} (h : WalkAt w m sb vb ib pb cb n T walked chosen ps cs) : w.cell? ⟨sb, 0, none⟩ = some (.slice (some ⟨vb, 0, none⟩) n n) := by rw [cell_of_row _ _ _ _ _ _ h.set]; rfl

/-- What is known behind the lock, in the middle of 'Proposer': w0 is the world at the entry, rb the result's own block. -/
structure MidAt (w0 w : World) (m : Int) (sb vb ib pb cb n : Nat) (T walked chosen : Int) (ps cs : Nat → Int) (VC : Array Value) (RC : Array Value) : Prop where
  walk : WalkAt w m sb vb ib pb cb n T walked chosen ps cs
  vals : w.heap[vb]? = some (.cells VC 37 (0, 0))
  res : w.heap[w0.heap.size]? = some (.cells RC 37 (0, 0))
  vs : vb ≠ sb
  vc : vb ≠ cb
  rs : w0.heap.size ≠ sb
  rc : w0.heap.size ≠ cb
  rv : w0.heap.size ≠ vb
  turn : Turn [sb, cb] w0 w

theorem MidAt.step {w0 w w' : World} {m m' : Int} {sb vb ib pb cb n : Nat} {T walked chosen walked' chosen' : Int} {ps cs cs' : Nat → Int} {VC RC : Array Value} (h : MidAt w0 w m sb vb ib pb cb n T walked chosen ps cs VC RC)
    (hw : WalkAt w' m' sb vb ib pb cb n T walked' chosen' ps cs') (ht : Turn [sb, cb] w w') : MidAt w0 w' m' sb vb ib pb cb n T walked' chosen' ps cs' VC RC :=
  ⟨hw, (ht.block _ (heap_lt h.vals) (by simp [h.vs, h.vc])).trans h.vals, (ht.block _ (heap_lt h.res) (by simp [h.rs, h.rc])).trans h.res, h.vs, h.vc, h.rs, h.rc, h.rv, h.turn.trans ht⟩

theorem tape_setCells (g : Nat) : ∀ (vs : List Value) (o : Nat) (w : World), (w.setCells g o vs).tape = w.tape
  | [], _, _ => rfl
  | v :: r, o, w => by rw [World.setCells, tape_setCells g r (o + 1)]; rfl
theorem os_setCells (g : Nat) : ∀ (vs : List Value) (o : Nat) (w : World), (w.setCells g o vs).os = w.os
  | [], _, _ => rfl
  | v :: r, o, w => by rw [World.setCells, os_setCells g r (o + 1)]; rfl
theorem output_setCells (g : Nat) : ∀ (vs : List Value) (o : Nat) (w : World), (w.setCells g o vs).output = w.output
  | [], _, _ => rfl
  | v :: r, o, w => by rw [World.setCells, output_setCells g r (o + 1)]; rfl
theorem mid_next {w0 w w' : World} {sb vb ib pb cb n p j g b : Nat} {T ch : Int} {ps : Nat → Int} {VC RC : Array Value} (h : MidAt w0 w 1 sb vb ib pb cb n T j ch ps (Plain.cnt ps T n j) VC RC) (hj : j ≤ p)
    (hb : b = best (fun i => Plain.cnt ps T n j i + ps i) n) (hw : WalkAt w' 1 sb vb ib pb cb n T ((j : Int) + 1) b ps (fun i => if i = b then Plain.cnt ps T n j i + ps i - T else Plain.cnt ps T n j i + ps i)) (ht : Turn [sb, cb] w w') (hg : g = p - j) :
    ∃ j' : Nat, j' + g = p + 1 ∧ ∃ ch : Int, (1 ≤ j' → ch = sq ps T n (j' - 1)) ∧ MidAt w0 w' 1 sb vb ib pb cb n T j' ch ps (Plain.cnt ps T n j') VC RC := by
  rw [← sq_eq] at hb
  refine ⟨j + 1, by omega, b, fun _ => by rw [hb]; rfl, h.step ?_ ht⟩
  have e : ((j + 1 : Nat) : Int) = (j : Int) + 1 := by omega
  rw [e]
  exact hw.congr (fun i _ => by rw [cnt_succ, hb])

def zero23 : Array Value := #[.string { data := #[] }, .int .u8 0, .int .u8 0, .int .u8 0, .int .u8 0, .int .u8 0, .int .u8 0, .int .u8 0, .int .u8 0, .int .u8 0, .int .u8 0, .int .u8 0, .int .u8 0, .int .u8 0, .int .u8 0, .int .u8 0,
  .int .u8 0, .int .u8 0, .int .u8 0, .int .u8 0, .int .u8 0, .slice none 0 0, .int .i64 0]

theorem mid_first {w : World} {sb vb ib pb cb n : Nat} {T walked chosen : Int} {ps cs : Nat → Int} {VC : Array Value} (h : SetAt w 0 sb vb ib pb cb n T walked chosen ps cs VC) (nq : Nat) :
    MidAt w (((w.alloc (.cells zero23 37)).drewN nq).setCell ⟨sb, 3, none⟩ (.int .i32 1)) 1 sb vb ib pb cb n T walked chosen ps cs VC zero23 :=
  have hs := heap_lt h.walk.set
  have hv := heap_lt h.vals
  have hc := heap_lt h.walk.cnt
  ⟨((h.walk.alloc _).drewN nq).setMu 1, (heap_setCell_other _ _ _ _ h.vs).trans ((Below.heap_alloc _ _ _ hv).trans h.vals), (heap_setCell_other _ _ _ _ (show w.heap.size ≠ sb by omega)).trans (Go.heap_alloc_new w _), h.vs, h.vc, by omega, by omega, by omega,
    ((((Turn.refl _ w).alloc _).drewN nq).setCell _ _ _ (by simp))⟩

theorem cnt_bd (ps : Nat → Int) (T : Int) (n k N i : Nat) (hT : T = N) (hN1 : N ≤ 65536) (hk : k ≤ N) (hp : 0 ≤ ps i ∧ ps i ≤ 65536) : -9000000000 ≤ Plain.cnt ps T n k i ∧ Plain.cnt ps T n k i ≤ 9000000000 := by
  unfold Plain.cnt
  have hc := counts_bd ps T n k i
  have h1 : 0 ≤ (k : Int) * ps i := Int.mul_nonneg (by omega) hp.1
  have h2 : (k : Int) * ps i ≤ 65536 * 65536 := Int.mul_le_mul (by omega) hp.2 hp.1 (by omega)
  have h3 : 0 ≤ T * Plain.counts ps T n k i := Int.mul_nonneg (by omega) hc.1
  have h4 : T * Plain.counts ps T n k i ≤ 65536 * 65536 := Int.mul_le_mul (by omega) (by omega) hc.1 (by omega)
  omega

/-! ### A whole Validator out of the row and into the result's variable -/
def has23 (x : World) (b o : Nat) : Prop := ∀ j, j < 23 → (x.cell? ⟨b, o + j, none⟩).isSome = true
def read23 (x : World) (b o : Nat) : List Value := (List.range 23).map fun j => (x.cell? ⟨b, o + j, none⟩).getD undef
theorem rangeAt_read23 {x : World} {b o : Nat} (h : has23 x b o) : x.rangeAt b o (read23 x b o) := by
  intro j v hv
  have hj : j < 23 := by have := (List.getElem?_eq_some_iff.1 hv).1; simpa [read23] using this
  obtain ⟨u, hu⟩ := Option.isSome_iff_exists.1 (h j hj)
  simp [read23, hj, hu] at hv
  rw [hu, hv]
theorem read23_of_row {w : World} {b : Nat} {C : Array Value} {t : TypeId} {fr : Nat × Nat} (hb : w.heap[b]? = some (.cells C t fr)) {o : Nat} (ho : o + 23 ≤ C.size) : read23 w b o = (C.extract o (o + 23)).toList := by
  apply List.ext_getElem?
  intro j
  by_cases hj : j < 23
  · have h1 : (C.extract o (o + 23)).toList[j]? = C[o + j]? := by
      rw [Array.getElem?_toList, Array.getElem?_extract, if_pos (by omega)]
    rw [h1]
    have h2 : o + j < C.size := by omega
    simp [read23, hj, cell_of_row _ _ _ _ _ _ hb, h2]
  · rw [List.getElem?_eq_none (by simp [read23]; omega), List.getElem?_eq_none (by simp; omega)]
theorem one_extract {C : Array Value} (h : ∀ v ∈ C, v.oneCell' = true) (o e : Nat) : ∀ v ∈ (C.extract o e).toList, v.oneCell' = true := by
  intro v hv
  obtain ⟨j, hj⟩ := List.getElem?_of_mem hv
  rw [Array.getElem?_toList, Array.getElem?_extract] at hj
  split at hj
  · exact h v (Array.mem_of_getElem? hj)
  · cases hj
theorem Try.size37 : (Try.prog.info? 37).map (·.size) = some 23 := by kernel_rfl
theorem load37 (x : World) (b o : Nat) (h : has23 x b o) : (Instr.loadAt 37 (.pointer (some ⟨b, o, none⟩))).run Try.prog x = .ok (.agg (read23 x b o).toArray) x :=
  run_loadAt_mid x b o 37 (read23 x b o) _ (rangeAt_read23 h) Try.underlying37 rfl (by rw [Try.size37]; simp [read23])
theorem store37 (x : World) (b o : Nat) (E : List Value) (ht : x.there b o 23) (hl : E.length = 23) (h1 : ∀ v ∈ E, v.oneCell' = true) :
    (Instr.storeAt 37 (.pointer (some ⟨b, o, none⟩)) (.agg E.toArray)).run Try.prog x = .ok () (x.setCells b o E) :=
  run_storeAt_mid x b o 37 E.toArray (by simpa [hl] using ht) (by rw [Try.size37]; simp [hl]) (all_oneCell_toArray h1)
def Look (sb vb rb n c : Nat) (E : List Value) (x : World) : Prop :=
  x.cell? ⟨sb, 0, none⟩ = some (.slice (some ⟨vb, 0, none⟩) n n) ∧ x.cell? ⟨sb, 9, none⟩ = some (.int .i64 c) ∧ has23 x vb (c * 23) ∧ read23 x vb (c * 23) = E ∧ x.there rb 0 23
theorem look_drew {sb vb rb n c : Nat} {E : List Value} {x : World} (h : Look sb vb rb n c E x) : Look sb vb rb n c E x.drew := h
theorem look_store {sb vb rb n c : Nat} {E F : List Value} {x : World} (h : Look sb vb rb n c E x) (h1 : rb ≠ sb) (h2 : rb ≠ vb) : Look sb vb rb n c E (x.setCells rb 0 F) := by
  obtain ⟨a, b, d, e, f⟩ := h
  have ho : ∀ g o, g ≠ rb → (x.setCells rb 0 F).cell? ⟨g, o, none⟩ = x.cell? ⟨g, o, none⟩ := fun g o hg => World.cell?_setCells_out rb F 0 x ⟨g, o, none⟩ (fun he _ => absurd he hg)
  refine ⟨by rw [ho _ _ (Ne.symm h1)]; exact a, by rw [ho _ _ (Ne.symm h1)]; exact b, fun j hj => by rw [ho _ _ (Ne.symm h2)]; exact d j hj, ?_, World.there_setCells f _ _ _⟩
  rw [← e]
  unfold read23
  exact List.map_congr_left fun j _ => by rw [ho _ _ (Ne.symm h2)]
def ldSem (t : TypeId) (v : Value) : Sem Value := Instr.loadAt t v
def stSem (t : TypeId) (v u : Value) : Sem Unit := Instr.storeAt t v u
theorem ld37_in (v : Value) : Instr.loadAt 37 v = ldSem 37 v := rfl
theorem st37_in (v u : Value) : Instr.storeAt 37 v u = stSem 37 v u := rfl
theorem ld37_eq (x : World) (b o : Nat) (h : has23 x b o) : (ldSem 37 (.pointer (some ⟨b, o, none⟩))).run Try.prog x = .ok (.agg (read23 x b o).toArray) x := load37 x b o h
def AllOne (E : List Value) : Prop := ∀ v ∈ E, v.oneCell' = true
theorem st37_eq (x : World) (b o : Nat) (E : List Value) (ht : x.there b o 23) (hl : E.length = 23) (h1 : AllOne E) :
    (stSem 37 (.pointer (some ⟨b, o, none⟩)) (.agg E.toArray)).run Try.prog x = .ok () (x.setCells b o E) := store37 x b o E ht hl h1
attribute [local go_sem ↓] ld37_in st37_in
attribute [local go_sem] ld37_eq st37_eq

/-- What 'Proposer' leaves: the validator at the place of entry p; the set, walked to that entry. -/
structure PropPost (sb vb ib pb cb n p : Nat) (T : Int) (ps : Nat → Int) (VC : Array Value) (w : World) (e : Ending) (w' : World) : Prop where
  ret : e = .returned (.agg (VC.extract (sq ps T n p * 23) (sq ps T n p * 23 + 23)))
  set : SetAt w' 0 sb vb ib pb cb n T ((p + 1 : Nat) : Int) (sq ps T n p) ps (Plain.cnt ps T n (p + 1)) VC
  turn : Turn [sb, cb] w w'

theorem mid_store {w0 w : World} {m : Int} {sb vb ib pb cb n : Nat} {T walked chosen : Int} {ps cs : Nat → Int} {VC RC : Array Value} {E : List Value} (h : MidAt w0 w m sb vb ib pb cb n T walked chosen ps cs VC RC)
    (hp : w0.heap.size ≠ pb) (hl : E.length = RC.size) : MidAt w0 (w.drew.setCells w0.heap.size 0 E) m sb vb ib pb cb n T walked chosen ps cs VC E.toArray :=
  have ho : ∀ k, k ≠ w0.heap.size → (w.drew.setCells w0.heap.size 0 E).heap[k]? = w.heap[k]? := fun k hk => heap_setCells_off _ _ _ _ _ hk
  ⟨⟨(ho _ (Ne.symm h.rs)).trans h.walk.set, (ho _ (Ne.symm hp)).trans h.walk.pow, (ho _ (Ne.symm h.rc)).trans h.walk.cnt, h.walk.sp, h.walk.sc, h.walk.pc⟩, (ho _ (Ne.symm h.rv)).trans h.vals,
    by rw [heap_setCells_at w0.heap.size 37 E 0 RC w.drew h.res, splice_all _ _ hl], h.vs, h.vc, h.rs, h.rc, h.rv,
    ⟨(os_setCells _ _ _ _).trans h.turn.os, (tape_setCells _ _ _ _).trans h.turn.tape, (output_setCells _ _ _ _).trans h.turn.output, by rw [size_setCells]; exact h.turn.size, fun k hk hn => (ho k (by omega)).trans (h.turn.block k hk hn)⟩⟩

theorem prop_door {w X : World} {sb vb ib pb cb n p : Nat} {T : Int} {ps : Nat → Int} {VC : Array Value} {E : List Value} {c : Nat} (HC : Hid (c = sq ps T n p)) (HE : Hid (E = (VC.extract (c * 23) (c * 23 + 23)).toList)) (hEl : E.length = 23)
    (hX : MidAt w X 1 sb vb ib pb cb n T ((p + 1 : Nat) : Int) c ps (Plain.cnt ps T n (p + 1)) VC E.toArray) (tmps : Array Value) (h6 : tmps.getD 6 undef = .pointer (some ⟨w.heap.size, 0, none⟩)) :
    bodyPostD Try.prog Try.f9 (PropPost sb vb ib pb cb n p T ps VC w) Exit.ret { tmps := tmps, defers := [{ target := Target.fn (Fn.func 16) #[], args := #[.pointer (some ⟨sb, 3, none⟩)] }] } X := by
  refine leaves_cons (f := 16) (args := #[.pointer (some ⟨sb, 3, none⟩)]) (by simp) (by simp [go_sem]) ?_
  refine (unlock_deferred Try.muLib ⟨sb, 3, none⟩ .returning _ hX.walk.c3 (frozen_of_row _ _ _ _ _ hX.walk.set)).mono ?_
  rintro e u' w'' ⟨rfl, rfl, rfl⟩
  have hY : MidAt w (X.setCell ⟨sb, 3, none⟩ (.int .i32 0)) 0 sb vb ib pb cb n T ((p + 1 : Nat) : Int) c ps (Plain.cnt ps T n (p + 1)) VC E.toArray :=
    hX.step (hX.walk.setMu 0) ((Turn.refl _ _).setCell _ _ _ (by simp))
  refine ⟨.agg E.toArray, results_cell_row Try.results9 _ _ w.heap.size 37 E.toArray (0, 0) _ h6 hY.res Try.underlying37 rfl (by rw [Try.size37]; simp [hEl]), ?_⟩
  have hc := HC.out
  exact ⟨by rw [HE.out, hc], ⟨by rw [← hc]; exact hY.walk, hY.vals, hY.vs, hY.vc⟩, hY.turn⟩

set_option maxHeartbeats 1000000 in
theorem prop_any (sb vb ib pb cb n N k p : Nat) (T chosen height round : Int) (ps : Nat → Int) (VC : Array Value) (w : World)
    (h : SetAt w 0 sb vb ib pb cb n T k chosen ps (Plain.cnt ps T n k) VC) (hch0 : 1 ≤ k → chosen = sq ps T n (k - 1))
    (hn : 0 < n) (hn2 : n ≤ 4096) (hN : T = N) (hN0 : 0 < N) (hN1 : N ≤ 65536) (hk : k ≤ N) (hh : 1 ≤ height) (hh2 : height ≤ 9223372036854775807) (hr : 0 ≤ round) (hr2 : round ≤ 2147483647)
    (hVC : VC.size = n * 23) (hV1 : ∀ v ∈ VC, v.oneCell' = true) (hps : ∀ i, i < n → 0 ≤ ps i ∧ ps i ≤ 65536)
    (hp : ((height - 1) % T + round % T) % T = p) (hp2 : p < N) :
    Calls Try.prog 9 #[.pointer (some ⟨sb, 0, none⟩), .int .i64 height, .int .i32 round] w fun e w' => PropPost sb vb ib pb cb n p T ps VC w e w' := by
  have r2 : w.cell? ⟨sb, 2, none⟩ = some (.int .i64 T) := by rw [cell_of_row _ _ _ _ _ _ h.walk.set]; rfl
  have t0 : 0 < T := by omega
  have t1 : T ≤ 65536 := by omega
  have HN : Hid (T = N) := hN
  have m1 := Int.emod_nonneg (height - 1) (show T ≠ 0 by omega)
  have m2 := Int.emod_lt_of_pos (height - 1) t0
  have m3 := Int.emod_nonneg round (show T ≠ 0 by omega)
  have m4 := Int.emod_lt_of_pos round t0
  have hsb := heap_lt h.walk.set
  have hpb := heap_lt h.walk.pow
  clear hN
  go_enter_defers Try.func9, Try.ntmps9
  go_wp2_with fail
  go_quiet (fail)
  go_wp2_with fail
  refine (lock_free Try.muLib ⟨sb, 3, none⟩ _ ((h.walk.alloc (.cells zero23 37)).drewN nq).c3 (frozen_of_row _ _ _ _ _ ((h.walk.alloc (.cells zero23 37)).drewN nq).set)).mono ?_
  rintro e w1 ⟨rfl, rfl⟩
  generalize hW : ((w.alloc (Obj.cells _ 37)).drewN nq).setCell ⟨sb, 3, none⟩ (.int .i32 1) = W
  have hm : MidAt w W 1 sb vb ib pb cb n T k chosen ps (Plain.cnt ps T n k) VC zero23 := by rw [← hW]; exact mid_first h nq
  clear hW m1 m2 m3 m4 h r2
  have r8 := hm.walk.c8
  refine Decidable.byCases (p := (p : Int) + 1 < (k : Int)) (fun hre => ?again) (fun hre => ?onward)
  case' again =>
    go_wp2_with (go_at_call 17; refine (restart_any _ _ _ _ _ _ _ _ _ _ _ _ _ hm.walk hn).mono ?_; rintro e w2 ⟨rfl, hw2, hz2, ht2⟩)
    obtain ⟨k0, hk0, ch0, hc0, hm0⟩ : ∃ j : Nat, j ≤ p + 1 ∧ ∃ ch : Int, (1 ≤ j → ch = sq ps T n (j - 1)) ∧ MidAt w w2 1 sb vb ib pb cb n T j ch ps (Plain.cnt ps T n j) VC zero23 :=
      ⟨0, by omega, chosen, fun h => absurd h (by omega), hm.step (hw2.congr (fun i _ => (cnt_zero ps T n i).symm)) ht2⟩
    clear hw2 hz2 ht2 hm r8 hre hch0 hk
  case' onward =>
    go_wp2_with fail
    obtain ⟨k0, hk0, ch0, hc0, hm0⟩ : ∃ j : Nat, j ≤ p + 1 ∧ ∃ ch : Int, (1 ≤ j → ch = sq ps T n (j - 1)) ∧ MidAt w W 1 sb vb ib pb cb n T j ch ps (Plain.cnt ps T n j) VC zero23 :=
      ⟨k, by omega, chosen, hch0, hm⟩
    clear hm r8 hre hch0 hk
  all_goals
    go_loopg [57] (p + 1 - k0) (fun g _z wr => ∃ j : Nat, j + g = p + 1 ∧ ∃ ch : Int, (1 ≤ j → ch = sq ps T n (j - 1)) ∧ MidAt w wr 1 sb vb ib pb cb n T j ch ps (Plain.cnt ps T n j) VC zero23)
    case atStart => exact ⟨k0, by omega, ch0, hc0, hm0⟩
    case round =>
      clear hm0 hc0 hk0
      obtain ⟨j, hj, ch, hch, hmj⟩ := hrel
      have s8 := hmj.walk.c8
      by_cases hjp : j ≤ p
      · go_wp2_with (go_at_call 18; refine (next_any _ _ _ _ _ _ _ _ _ _ _ _ _ hmj.walk hn hn2 hps (fun i hi => cnt_bd ps T n j N i HN.out hN1 (by omega) (hps i hi)) ⟨by omega, by omega⟩ ⟨by omega, by omega⟩).mono ?_; rintro e w3 ⟨b, hb, rfl, hw3, hz3, ht3⟩)
        go_roundg (p - j)
        case measure => omega
        case rel => exact mid_next hmj hjp hb hw3 ht3 rfl
      · obtain rfl : j = p + 1 := by omega
        obtain ⟨c, hc⟩ : ∃ c, c = sq ps T n p := ⟨_, rfl⟩
        have hcn : c < n := by rw [hc]; exact sq_lt _ _ _ hn _
        obtain rfl : ch = c := by rw [hch (by omega), hc]; rfl
        obtain ⟨E, hE, hEl⟩ : ∃ E, E = (VC.extract (c * 23) (c * 23 + 23)).toList ∧ E.length = 23 := ⟨_, rfl, by simp [hVC]; omega⟩
        have s9 := hmj.walk.c9
        have s0 := hmj.walk.c0
        have sE : has23 wr vb (c * 23) := fun i hi => by rw [cell_of_row _ _ _ _ _ _ hmj.vals]; simp; omega
        have sF : read23 wr vb (c * 23) = E := by rw [hE]; exact read23_of_row hmj.vals (by omega)
        have sR : wr.there w.heap.size 0 23 := fun i hi => ⟨by rw [cell_of_row _ _ _ _ _ _ hmj.res, Nat.zero_add]; simp [zero23, hi], frozen_of_row _ _ _ _ _ hmj.res⟩
        have hE1 : AllOne E := by rw [hE]; exact one_extract hV1 _ _
        have sL : Look sb vb w.heap.size n c E wr := ⟨s0, s9, sE, sF, sR⟩
        have rs := hmj.rs
        have rv := hmj.rv
        have ci0 : (0 : Int) ≤ (c : Int) := by omega
        have ci1 : (c : Int) < (n : Int) := by omega
        have HE : Hid (E = (VC.extract (c * 23) (c * 23 + 23)).toList) := hE
        have HC : Hid (c = sq ps T n p) := hc
        have hX := mid_store (E := E) hmj (by omega) (by rw [hEl]; rfl)
        clear hE hc hch sE sF s0 s9 hmj
        go_wp2
        go_region_held3 (fun x => x.cell? ⟨sb, 0, none⟩ = some (.slice (some ⟨vb, 0, none⟩) n n) ∧ x.cell? ⟨sb, 9, none⟩ = some (.int .i64 c) ∧ has23 x vb (c * 23) ∧ read23 x vb (c * 23) = E ∧ x.there w.heap.size 0 23)
          (first | (exact look_drew (by assumption)) | (exact look_store (by assumption) rs rv)) (fail)
        go_wp2
        exact prop_door HC HE hEl hX _ rfl
end Go.Proofs.Qxb6630756a
