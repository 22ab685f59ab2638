import Derived.Test.Qxb6630756aBuild
namespace Go.Proofs.Qxb6630756a
open Go.RowKit Go.Maps Plain

/-- The names' slice: nil (every name empty), or a row of n strings. -/
def NamesAt (w : World) (nv : Value) (n : Nat) (nm : Nat → ByteArray) : Prop :=
  (nv = .slice none 0 0 ∧ ∀ i, nm i = { data := #[] }) ∨ ∃ nb no nc, nv = .slice (some ⟨nb, no, none⟩) n nc ∧ ∀ i, i < n → w.cell? ⟨nb, no + i, none⟩ = some (.string (nm i))

attribute [local go_sem ↓] ld37_in st37_in
attribute [local go_sem] ld37_eq st37_eq

def LookB (b o g q : Nat) (p : Int) (x : World) : Prop := x.cell? ⟨b, o, none⟩ = some (.int .i64 p) ∧ x.there g q 23
theorem lookB_drew {b o g q : Nat} {p : Int} {x : World} (h : LookB b o g q p x) : LookB b o g q p x.drew := h
theorem lookB_below {b o g q : Nat} {p : Int} {x x' : World} (h : LookB b o g q p x) (hb : Below x.heap.size x x') : LookB b o g q p x' :=
  ⟨(hb.cell (block_lt_of_cell h.1)).trans h.1, fun j hj => by
    obtain ⟨h1, h2⟩ := h.2 j hj
    obtain ⟨u, hu⟩ := Option.isSome_iff_exists.1 h1
    have hl := block_lt_of_cell hu
    exact ⟨by rw [hb.cell hl]; exact h1, by rw [hb.frozen hl]; exact h2⟩⟩
theorem lookB_store {b o g q : Nat} {p : Int} {x : World} {E : List Value} (h : LookB b o g q p x) (hne : b ≠ g) : LookB b o g q p (x.setCells g q E) :=
  ⟨by rw [World.cell?_setCells_out g E q x ⟨b, o, none⟩ (fun he _ => absurd he hne)]; exact h.1, World.there_setCells h.2 _ _ _⟩
theorem valCells_len (s : ByteArray) (i : Nat) (p : Int) : (valCells s i p).toList.length = 23 := by simp [valCells_size]
def bdSem (t : TypeId) (parts : Array (Nat × Value)) : Sem Value := Instr.build t parts
theorem bd37_in (parts : Array (Nat × Value)) : Instr.build 37 parts = bdSem 37 parts := rfl
theorem build37 (s : ByteArray) (i : Nat) (p : Int) (w : World) : (bdSem 37 #[(0, .string s), (1, .agg (addrCells i)), (3, .int .i64 p)]).run Try.prog w = .ok (.agg (valCells s i p).toList.toArray) w := by
  rw [Array.toArray_toList]
  refine run_build w 37 _ _ ?_
  unfold valCells addrCells
  generalize ((i : Int) + 1) / 16777216 = q0
  generalize ((i : Int) + 1) / 65536 = q1
  generalize ((i : Int) + 1) / 256 = q2
  generalize ((i : Int) + 1) % 256 = q3
  kernel_rfl

attribute [local go_sem ↓] bd37_in

theorem build_cells {w x : World} {n kv km k b o : Nat} {nm : Nat → ByteArray} {ps : Nat → Int} {p : Int} (h : BuildAt w x n kv km k nm ps) (hk : k < n) (hp : w.cell? ⟨b, o, none⟩ = some (.int .i64 p)) :
    x.cell? ⟨b, o, none⟩ = some (.int .i64 p) ∧ x.cell? ⟨w.heap.size + 1 + 1, k, none⟩ = some (.int .i64 0) ∧ x.frozen? ⟨w.heap.size + 1 + 1, k, none⟩ = false :=
  ⟨(h.below.cell (block_lt_of_cell hp)).trans hp, by rw [cell_of_row _ _ _ _ _ _ h.pow, rowF_get _ _ _ hk]; simp, frozen_of_row _ _ _ _ _ h.pow⟩

/-- What zzBuild leaves: a fresh set, laid in new memory. -/
structure BuildPost (n : Nat) (T : Int) (nm : Nat → ByteArray) (ps : Nat → Int) (w : World) (e : Ending) (w' : World) : Prop where
  ex : ∃ sb vb ib pb cb VC, e = .returned (.pointer (some ⟨sb, 0, none⟩)) ∧ SetAt w' 0 sb vb ib pb cb n T 0 0 ps (fun _ => 0) VC ∧ ValOk VC n n nm ps ∧ w.heap.size ≤ sb ∧ w.heap.size ≤ cb
  below : Below w.heap.size w w'

theorem build_end {w wr : World} {n : Nat} {T : Int} {nm : Nat → ByteArray} {ps : Nat → Int} (h : BuildAt w wr n n n n nm ps) :
    BuildPost n T nm ps w (.returned (.pointer (some ⟨wr.heap.size + 1, 0, none⟩)))
      ((wr.alloc (.cells (rowF n (fun _ => 0)) 2)).alloc (.cells (setCellsV 0 w.heap.size (w.heap.size + 1) (w.heap.size + 1 + 1) wr.heap.size n T 0 0) 56)) := by
  obtain ⟨⟨VC, hV, hok⟩, _, hp, hbl, hs⟩ := h
  refine ⟨⟨wr.heap.size + 1, w.heap.size, w.heap.size + 1, w.heap.size + 1 + 1, wr.heap.size, VC, rfl, ⟨⟨?_, ?_, ?_, by omega, by omega, by omega⟩, ?_, by omega, by omega⟩, hok, by omega, by omega⟩, ?_⟩
  · have := Go.heap_alloc_new (wr.alloc (.cells (rowF n (fun _ => 0)) 2)) (.cells (setCellsV 0 w.heap.size (w.heap.size + 1) (w.heap.size + 1 + 1) wr.heap.size n T 0 0) 56)
    simpa using this
  · rw [Below.heap_alloc _ _ _ (by simp; omega), Below.heap_alloc _ _ _ (by omega)]
    rw [show w.heap.size + 1 + 1 = w.heap.size + 2 from rfl, hp]
    congr 2
    exact rowF_ext _ _ _ (fun i hi => by simp [hi])
  · rw [Below.heap_alloc _ _ _ (by simp)]
    exact Go.heap_alloc_new _ _
  · rw [Below.heap_alloc _ _ _ (by simp; omega), Below.heap_alloc _ _ _ (by omega)]
    exact hV
  · exact (hbl.alloc (by omega) _).alloc (by simp; omega) _

set_option maxHeartbeats 2000000 in
theorem build_any (nv : Value) (nm : Nat → ByteArray) (b off c n : Nat) (T : Int) (ps : Nat → Int) (w : World) (hn : 0 < n) (hn2 : n ≤ 4096) (hnm : NamesAt w nv n nm)
    (hps : ∀ i, i < n → w.cell? ⟨b, off + i, none⟩ = some (.int .i64 (ps i))) :
    Calls Try.prog 7 #[nv, .slice (some ⟨b, off, none⟩) n c, .int .i64 T] w fun e w' => BuildPost n T nm ps w e w' := by
  have hmm := @run_makeMap Try.prog
  have h42 := make42 n hn2
  have h23 := make23 n (by omega)
  have hnn := fun w a n c => run_neq_slice_nil_any (P := Try.prog) w 22 9 a n c 0 0 Try.underlying22
  go_enter Try.func7, Try.ntmps7
  go_wp2_with fail
  go_loopg [11, 12] n (fun g i _s wr => ∃ k : Nat, k + g = n ∧ i = .int .i64 k ∧ BuildAt w wr n k k k nm ps)
  case atStart => exact ⟨0, by omega, rfl, build_first w n nm ps⟩
  case round =>
    obtain ⟨k, hk, rfl, hb⟩ := hrel
    clear hmm h42
    by_cases hlt : k < n
    · clear h23
      have hpk : wr.cell? ⟨b, off + k, none⟩ = some (.int .i64 (ps k)) := (hb.below.cell (block_lt_of_cell (hps k hlt))).trans (hps k hlt)
      have hth : wr.there w.heap.size (k * 23) 23 := by
        obtain ⟨VC, hV, hok⟩ := hb.vals
        have hs := hok.size
        exact fun j hj => ⟨by rw [cell_of_row _ _ _ _ _ _ hV]; simp; omega, frozen_of_row _ _ _ _ _ hV⟩
      have hbw : b ≠ w.heap.size := by have := block_lt_of_cell (hps k hlt); simp at this; omega
      have hL : LookB b (off + k) w.heap.size (k * 23) (ps k) wr := ⟨hpk, hth⟩
      have hE1 := valCells_one (nm k) k (ps k)
      have hEl := valCells_len (nm k) k (ps k)
      have hbd := build37 (nm k) k (ps k)
      have HP : Hid (w.cell? ⟨b, off + k, none⟩ = some (.int .i64 (ps k))) := hps k hlt
      have i0 : (0 : Int) ≤ (k : Int) := by omega
      have i1 : (k : Int) < (n : Int) := by omega
      clear hps
      refine hnm.elim (fun hx => ?nil) (fun hx => ?named)
      case' nil =>
        obtain ⟨rfl, hem⟩ := hx
        have HM : Hid (nm k = { data := #[] }) := hem k
        clear hem hnm
        go_wp2_with fail
        rw [← HM.out]
        clear HM
      case' named =>
        obtain ⟨nb, no, nc, rfl, hcn⟩ := hx
        have hck : wr.cell? ⟨nb, no + k, none⟩ = some (.string (nm k)) := (hb.below.cell (block_lt_of_cell (hcn k hlt))).trans (hcn k hlt)
        clear hcn hnm
        go_wp2_with fail
        clear hck
      all_goals
        generalize hE : (valCells (nm k) k (ps k)).toList = E at *
        go_region_held3 (fun x => x.cell? ⟨b, off + k, none⟩ = some (.int .i64 (ps k)) ∧ x.there w.heap.size (k * 23) 23)
          (first | (exact lookB_drew (by assumption)) | (exact lookB_below (by assumption) (by assumption)) | (exact lookB_store (by assumption) hbw))
          (first | (go_at_call 13; refine (addr_any k _ (by omega)).mono ?_; rintro e x1 ⟨rfl, hb1⟩))
        have hX := (hb.grow (x := x1) ⟨hb1.os, hb1.tape, hb1.output, hb1.size, hb1.block⟩).val hlt
        rw [hE] at hX
        generalize x1.setCells w.heap.size (k * 23) E = X at *
        go_wp2_with fail
        refine (addr_any k _ (by omega)).mono ?_
        rintro e x2 ⟨rfl, hb2⟩
        have h2 := hX.grow hb2
        obtain ⟨D, hD⟩ := h2.map
        obtain ⟨kl, hkl⟩ := key_addr k (by omega)
        have hval : plainElem (H := Unit) Try.prog 3 (.int .i64 k) = some (.lit (.int .i64 k), []) := plainElem_int Try.underlying3 (by simp [Lit.wf, IntKind.min, IntKind.max, IntKind.signed, IntKind.bits]; omega)
        have HK : Hid (keyOf Try.prog 33 (.agg (addrCells k)) = some kl) := hkl
        have HV : Hid (plainElem (H := Unit) Try.prog 3 (.int .i64 k) = some (.lit (.int .i64 k), [])) := hval
        have HD : Hid (x2.ownsMap Try.prog 33 (plainElem Try.prog 3) (w.heap.size + 1) k D) := hD
        clear hkl hval hD hb hpk hth hL hbd hE1 hEl
        go_wp2_with (at_mapUpdate; refine wpList_mapUpdate_own x2 (by rfl) (.tmp 43) (.tmp 45) (.tmp 46) 43 (by rfl) 33 3 law33 Try.underlying43 (plainElem Try.prog 3) (w.heap.size + 1) k D (by rfl) HD.out (by unfold maxLen; omega) (.agg (addrCells k)) (.int .i64 k) kl (by rfl) (by rfl) HK.out (.lit (.int .i64 k)) [] HV.out ?_; intro w3 hD3 hg3; have hB3 := h2.put hD3 hg3; clear hD3 hg3 h2 HD HK HV hX; obtain ⟨p3, q3, f3⟩ := build_cells hB3 hlt HP.out)
        go_roundg (n - (k + 1))
        case measure => omega
        case rel => exact ⟨k + 1, by omega, by go_num, hB3.power⟩
    · obtain rfl : k = n := by omega
      go_wp2_with (go_at_call 14; refine (new_any _ _ _ _ _ _ _).mono ?_; rintro e x2 ⟨rfl, rfl⟩)
      go_ret
      exact build_end hb
end Go.Proofs.Qxb6630756a
