import Derived.Test.Qxb6630756aCyc
namespace Go.Proofs.Qxb6630756a
open Go.RowKit Go.Maps Plain

def LawPost (w : World) (e : Ending) (w' : World) : Prop := e = .returned (.bool true) ∧ Below w.heap.size w w'
theorem lawPost_same (w : World) : LawPost w (.returned (.bool true)) w := ⟨rfl, Below.refl _ _⟩
theorem ld33_in (v : Value) : Instr.loadAt 33 v = ldSem 33 v := rfl
/-- The handed validator, boxed: E is its row of cells. -/
def valE (c : Nat) (p : Int) : List Value := (valCells { data := #[] } c p).toList
theorem valE_len (c : Nat) (p : Int) : (valE c p).length = 23 := valCells_len _ _ _
theorem valE_one (c : Nat) (p : Int) : AllOne (valE c p) := valCells_one _ _ _
theorem valE_arr (c : Nat) (p : Int) : valCells { data := #[] } c p = (valE c p).toArray := by unfold valE; rw [Array.toArray_toList]
theorem valE_at (c : Nat) (p : Int) (j : Nat) (hj : j < 20) : (valE c p)[1 + j]? = (addrCells c)[j]? := by
  unfold valE valCells
  rw [Array.getElem?_toList, Array.getElem?_append_left (by simp [addrCells_size]; omega), Array.getElem?_append_right (by simp)]
  simp
theorem ld33_val (x : World) (c : Nat) (p : Int) : (ldSem 33 (.pointer (some ⟨x.heap.size, 1, none⟩))).run Try.prog (x.alloc (.cells (valE c p).toArray 37)) = .ok (.agg (addrCells c)) (x.alloc (.cells (valE c p).toArray 37)) := by
  have h := run_loadAt_mid (P := Try.prog) (x.alloc (.cells (valE c p).toArray 37)) x.heap.size 1 33 (addrCells c).toList (.array 20 5) (fun j v hv => by
    rw [cell_of_row _ _ _ _ _ _ (Go.heap_alloc_new x _)]
    have hj : j < 20 := by have := (List.getElem?_eq_some_iff.1 hv).1; simpa [addrCells_size] using this
    have := valE_at c p j hj
    rw [List.getElem?_toArray, this]
    simpa using hv) Try.underlying33 rfl (by rw [Try.size33]; simp [addrCells_size])
  exact h.trans (congrArg (fun a => Result.ok (Value.agg a) _) Array.toArray_toList)
theorem valE_cells (x x2 : World) (c : Nat) (p : Int) (hb : Below (x.alloc (.cells (valE c p).toArray 37)).heap.size (x.alloc (.cells (valE c p).toArray 37)) x2) :
    x2.cell? ⟨x.heap.size, 0, none⟩ = some (.string { data := #[] }) ∧ x2.cell? ⟨x.heap.size, 21, none⟩ = some (.slice none 0 0) ∧ x2.cell? ⟨x.heap.size, 22, none⟩ = some (.int .i64 p) := by
  have hc : ∀ o, x2.cell? ⟨x.heap.size, o, none⟩ = (valE c p).toArray[o]? := fun o => by
    rw [hb.cell (by simp), cell_of_row _ _ _ _ _ _ (Go.heap_alloc_new x _)]
  rw [hc, hc, hc, ← valE_arr]
  have h0 : (valCells { data := #[] } c p)[0]? = some (.string { data := #[] }) := by
    unfold valCells; rw [Array.getElem?_append_left (by simp [addrCells_size]), Array.getElem?_append_left (by simp)]; rfl
  have h1 : (valCells { data := #[] } c p)[21]? = some (.slice none 0 0) := by
    unfold valCells; rw [Array.getElem?_append_right (by simp [addrCells_size])]; simp [addrCells_size]
  have h2 : (valCells { data := #[] } c p)[22]? = some (.int .i64 p) := by
    unfold valCells; rw [Array.getElem?_append_right (by simp [addrCells_size])]; simp [addrCells_size]
  exact ⟨h0, h1, h2⟩
attribute [local go_sem ↓] st37_in ld33_in
attribute [local go_sem] st37_new

theorem law_first {w w1 : World} {sb vb ib pb cb n N s : Nat} {T : Int} {ps : Nat → Int} {VC : Array Value} (h : SetAt w1 0 sb vb ib pb cb n T 0 0 ps (fun _ => 0) VC) (hb : Below w.heap.size w w1) (ns : w.heap.size ≤ sb) (nc : w.heap.size ≤ cb) :
    LawAt w (w1.alloc (.cells (rowF n (fun _ => 0)) 2)) sb vb ib pb cb w1.heap.size n 0 T 0 ps VC (runs ps T n N s 0) := by
  have h1 := heap_lt h.walk.set
  have h2 := heap_lt h.walk.cnt
  have h3 := heap_lt h.walk.pow
  have h4 := heap_lt h.vals
  have e : Plain.cnt ps T n 0 = fun _ => 0 := by funext i; exact cnt_zero ps T n i
  refine ⟨?_, fun h => absurd h (by omega), Go.heap_alloc_new _ _, hb.alloc hb.size _, ns, nc, hb.size, by omega, by omega, by omega, by omega⟩
  rw [e]
  exact h.grow (fun k hk _ => Below.heap_alloc _ _ _ hk)

theorem law_next {w x : World} {sb vb ib pb cb qb n N s j p c : Nat} {T : Int} {ps : Nat → Int} {VC : Array Value} (h : LawAt w x sb vb ib pb cb qb n (p + 1) T c ps VC (runs ps T n N s j)) (HC : Hid (c = sq ps T n p)) (HP : Hid (p = (s + j) % N)) (m : Nat) :
    LawAt w ((x.setCell ⟨qb, c, none⟩ (.int .i64 (runs ps T n N s j c + 1))).drewN m) sb vb ib pb cb qb n (p + 1) T c ps VC (runs ps T n N s (j + 1)) :=
  ((h.count c _).congr (fun i _ => by
    rw [runs_succ, ← HP.out, ← HC.out]
    by_cases e : i = c
    · subst e; simp
    · simp [e])).draw m
theorem fp_first {fp : Value} {ps : Nat → Int} {T : Int} {n N s c p : Nat} (HC : Hid (c = sq ps T n p)) (HP : Hid (p = (s + 0) % N)) (hs : s < N) (hf : fp = .int .i64 c) : fp = .int .i64 (sq ps T n s) := by
  rw [hf, HC.out, HP.out, Nat.add_zero, Nat.mod_eq_of_lt hs]

set_option maxHeartbeats 2000000 in
theorem cyc_main (b off c : Nat) (zs : List Int) (height round : Int) (w : World) (hn : zs.length ≤ 4096) (hp : 0 < zs.length) (hrow : RowAt w b off zs) (hh : 1 ≤ height) (hh2 : height ≤ 9223372036854775807) (hr : 0 ≤ round) (hr2 : round ≤ 2147483647) :
    Calls Try.prog 4 #[.slice (some ⟨b, off, none⟩) zs.length c, .int .i64 height, .int .i32 round] w fun e w' => LawPost w e w' := by
  have hm : zs.length ≤ maxLen := by unfold maxLen; omega
  have hd : decide (zs.length ≤ 1048576) = true := by simp; omega
  go_enter Try.func4, Try.ntmps4
  go_wp2_with (go_at_call 12; refine (bytes_any _ _ _ _ _ _ hm).mono ?_; rintro e w1 ⟨rfl, hw1⟩; subst w1; rw [hd])
  refine (total_some _ _ _ _ _ hm hp hrow).mono ?_
  rintro e w1 ⟨t, ok, rfl, hw1, hok⟩
  subst w1
  cases ok
  case false =>
    go_wp2_with fail
    go_ret
    exact lawPost_same w
  case true =>
    obtain ⟨_, rfl, hpow⟩ := hok rfl
    have hsum := sumF_pw zs
    have hge := sumF_ge (pw zs) zs.length (fun i hi => pw_pos hpow i hi)
    have ht1 := hpow.2
    have ht0 : (zs.length : Int) ≤ sumL zs := by rw [← hsum]; exact hge.1
    obtain ⟨N, hN⟩ : ∃ N : Nat, sumL zs = N := ⟨(sumL zs).toNat, by omega⟩
    generalize hT : sumL zs = T at *
    by_cases hbig : 9223372036854775807 - 2 * T < height
    · go_wp2_with fail
      go_ret
      exact lawPost_same w
    · have hps : ∀ i, i < zs.length → w.cell? ⟨b, off + i, none⟩ = some (.int .i64 (pw zs i)) := hrow
      have hpl : ∀ i, i < zs.length → 0 ≤ pw zs i ∧ pw zs i ≤ 65536 := fun i hi => pw_le hpow i hi
      have hT1 : 0 < T := by omega
      obtain ⟨s, hs⟩ : ∃ s : Nat, ((height - 1) % T + round % T) % T = s := ⟨(((height - 1) % T + round % T) % T).toNat, by have := Int.emod_nonneg ((height - 1) % T + round % T) (show T ≠ 0 by omega); omega⟩
      have hsN : s < N := by have := Int.emod_lt_of_pos ((height - 1) % T + round % T) hT1; omega
      have HS : Hid (sumF (pw zs) zs.length = T) := hsum
      have HT : Hid (T = N) := hN
      have HI : Hid (((height - 1) % T + round % T) % T = s) := hs
      have HP : Hid (∀ i, i < zs.length → 1 ≤ pw zs i) := fun i hi => pw_pos hpow i hi
      have HQ : Hid (∀ i, i < zs.length → 0 ≤ pw zs i ∧ pw zs i ≤ 65536) := hpl
      have HC : Hid (∀ i, i < zs.length → w.cell? ⟨b, off + i, none⟩ = some (.int .i64 (pw zs i))) := hps
      have hNp : 0 < N := by omega
      have hNl : N ≤ 65536 := by omega
      clear hsum hN hs hpow hpl hps hT hge hok hrow hm hd
      generalize zs.length = n at *
      generalize pw zs = ps at *
      have h23 := make23 n (by omega)
      go_wp2_with fail
      refine (build_any _ (fun _ => { data := #[] }) _ _ _ _ _ _ _ hp hn (.inl ⟨rfl, fun _ => rfl⟩) HC.out).mono ?_
      rintro e w1 ⟨⟨sb, vb, ib, pb, cb, VC, rfl, hset, hval, nsb, ncb⟩, hbel⟩
      go_wp2_with fail
      have hlaw := law_first (N := N) (s := s) hset hbel nsb ncb
      generalize hq : w1.heap.size = qb at *
      generalize w1.alloc (Obj.cells (rowF n fun x => 0) 2) = W at *
      clear hset hbel h23 hq
      go_loopg [12, 13, 14, 15] N (fun g fp k _ _ wr => ∃ j : Nat, j + g = N ∧ k = .int .i64 j ∧ (0 < j → fp = .int .i64 (sq ps T n s)) ∧ ∃ kw ch, kw ≤ N ∧ LawAt w wr sb vb ib pb cb qb n kw T ch ps VC (runs ps T n N s j))
      case atStart => exact ⟨0, by omega, rfl, fun h => absurd h (by omega), 0, 0, by omega, hlaw⟩
      case round =>
        obtain ⟨j, hj, rfl, hfp, kw, ch, hkw, hl⟩ := hrel
        clear hlaw
        by_cases hlt : j < N
        · have HJ : Hid (((height + j - 1) % T + round % T) % T = ((s + j) % N : Nat)) := pos_at height round T N s j HT.out hNp hh hr HI.out
          have hpN : (s + j) % N < N := Nat.mod_lt _ hNp
          obtain ⟨p, hp⟩ : ∃ p, p = (s + j) % N := ⟨_, rfl⟩
          rw [← hp] at hpN HJ
          have hjT : (j : Int) < T := by have := HT.out; omega
          go_wp2_with fail
          refine (prop_any sb vb ib pb cb n N kw p T ch (height + j) round ps VC _ hl.set hl.chosen (by omega) hn HT.out hNp hNl hkw (by omega) (by omega) hr hr2 hval.size hval.one HQ.out HJ.out hpN).mono ?_
          intro e x1 hpp
          have hl1 := hl.ask hpp
          have hce := hpp.ret
          obtain ⟨cc, hcc⟩ : ∃ cc, cc = sq ps T n p := ⟨_, rfl⟩
          have hcn : cc < n := by rw [hcc]; exact sq_lt ps T n (by omega) p
          rw [← hcc, hval.at_ cc hcn, valE_arr] at hce
          rw [← hcc] at hl1
          subst hce
          clear hpp hl
          have hEl := valE_len cc (ps cc)
          have hE1 := valE_one cc (ps cc)
          have hld := ld33_val x1 cc (ps cc)
          have HCC : Hid (cc = sq ps T n p) := hcc
          have HPP : Hid (p = (s + j) % N) := hp
          have HCP : Hid (w.cell? ⟨b, off + cc, none⟩ = some (.int .i64 (ps cc))) := HC.out cc hcn
          clear hcc hp
          go_wp2_with fail
          refine (place_any cc n _ hn hcn).mono ?_
          rintro e x2 ⟨rfl, hb2⟩
          obtain ⟨v0, v1, v2⟩ := valE_cells x1 x2 cc (ps cc) hb2
          have hl2 := (hl1.grow (x := x1.alloc (.cells (valE cc (ps cc)).toArray 37)) ((Below.refl _ _).alloc (Nat.le_refl _) _)).grow hb2
          have vp : x2.cell? ⟨b, off + cc, none⟩ = some (.int .i64 (ps cc)) := (hl2.below.cell (block_lt_of_cell HCP.out)).trans HCP.out
          have vq : x2.cell? ⟨qb, cc, none⟩ = some (.int .i64 (runs ps T n N s j cc)) := by rw [cell_of_row _ _ _ _ _ _ hl2.cnts]; exact rowF_get _ _ _ hcn
          have vf : x2.frozen? ⟨qb, cc, none⟩ = false := frozen_of_row _ _ _ _ _ hl2.cnts
          obtain ⟨rb0, rb1⟩ := runs_bd ps T n N s j cc
          clear hEl hE1 hld hl1 hb2
          generalize x1.heap.size = g at *
          have d0 : decide ((cc : Int) < 0) = false := decide_eq_false (by omega)
          have d1 : (0 : Int) ≤ (cc : Int) := by omega
          have d2 : (cc : Int) < (n : Int) := by omega
          go_wp2_with fail
          go_quiet (fail)
          by_cases hj0 : j = 0
          · subst hj0
            go_wp2_with fail
            go_roundg (N - 1)
            case measure => omega
            case rel => exact ⟨1, by omega, by go_num, fun _ => fp_first HCC HPP hsN rfl, p + 1, cc, by omega, law_next hl2 HCC HPP _⟩
          · have hjb : ((j : Int) == 0) = false := by simp; omega
            have hfp := hfp (by omega)
            subst hfp
            go_wp2_with fail
            go_roundg (N - (j + 1))
            case measure => omega
            case rel => exact ⟨j + 1, by omega, by go_num, fun _ => rfl, p + 1, cc, by omega, law_next hl2 HCC HPP _⟩
        · obtain rfl : j = N := by omega
          have hfp := hfp hNp
          subst hfp
          have hl0 : LawAt w wr sb vb ib pb cb qb n kw T ch ps VC ps := hl.congr (fun i hi => by
            rw [runs_all ps T n j s i hsN]
            exact counts_all ps T n hp HP.out HS.out j HT.out.symm hT1 i hi)
          clear hl
          have hjT : T ≤ (j : Int) := by have := HT.out; omega
          go_wp2_with fail
          go_loopg [16] n (fun g i wr => ∃ k : Nat, k + g = n ∧ i = .int .i64 k ∧ LawAt w wr sb vb ib pb cb qb n kw T ch ps VC ps)
          case atStart => exact ⟨0, by omega, rfl, hl0⟩
          case round =>
            clear hl0
            obtain ⟨k, hk, rfl, hl⟩ := hrel
            by_cases hlt2 : k < n
            · have vp : wr.cell? ⟨b, off + k, none⟩ = some (.int .i64 (ps k)) := (hl.below.cell (block_lt_of_cell (HC.out k hlt2))).trans (HC.out k hlt2)
              have vq : wr.cell? ⟨qb, k, none⟩ = some (.int .i64 (ps k)) := by rw [cell_of_row _ _ _ _ _ _ hl.cnts]; exact rowF_get _ _ _ hlt2
              have d1 : (0 : Int) ≤ (k : Int) := by omega
              have d2 : (k : Int) < (n : Int) := by omega
              go_wp2_with fail
              go_quiet (fail)
              go_wp2_with fail
              go_roundg (n - (k + 1))
              case measure => omega
              case rel => exact ⟨k + 1, by omega, by go_num, hl.draw _⟩
            · have HJ : Hid (((height + T - 1) % T + round % T) % T = (s : Nat)) := by
                have := pos_at height round T j s j HT.out hNp hh hr HI.out
                rw [← HT.out, Nat.add_mod_right, Nat.mod_eq_of_lt hsN] at this
                exact this
              go_wp2_with fail
              refine (prop_any sb vb ib pb cb n j kw s T ch (height + T) round ps VC _ hl.set hl.chosen (by omega) hn HT.out hNp hNl hkw (by omega) (by omega) hr hr2 hval.size hval.one HQ.out HJ.out hsN).mono ?_
              intro e x1 hpp
              have hl1 := hl.ask hpp
              have hce := hpp.ret
              obtain ⟨cc, hcc⟩ : ∃ cc, cc = sq ps T n s := ⟨_, rfl⟩
              have hcn : cc < n := by rw [hcc]; exact sq_lt ps T n (by omega) s
              rw [← hcc, hval.at_ cc hcn, valE_arr] at hce
              rw [← hcc] at hl1
              subst hce
              clear hpp hl
              have hEl := valE_len cc (ps cc)
              have hE1 := valE_one cc (ps cc)
              have hld := ld33_val x1 cc (ps cc)
              rw [← hcc]
              clear hcc
              go_wp2_with fail
              refine (place_any cc n _ hn hcn).mono ?_
              rintro e x2 ⟨rfl, hb2⟩
              have hl2 := (hl1.grow (x := x1.alloc (.cells (valE cc (ps cc)).toArray 37)) ((Below.refl _ _).alloc (Nat.le_refl _) _)).grow hb2
              clear hEl hE1 hld hl1 hb2
              go_wp2_with fail
              go_ret
              exact ⟨rfl, hl2.below⟩
end Go.Proofs.Qxb6630756a
