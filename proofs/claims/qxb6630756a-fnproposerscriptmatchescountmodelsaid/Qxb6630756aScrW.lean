import Derived.Test.Qxb6630756aScr
namespace Go.Proofs.Qxb6630756a
open Go.RowKit Go.Maps Plain

theorem ne_of_len {a b : Nat} (h : a ≠ b) : ((a : Int) != (b : Int)) = true := by simp; omega

/-- What stands at the head of a round of the law's last loop. -/
structure ScrAt (w x : World) (sb vb ib pb cb gb n N : Nat) (T : Int) (ps : Nat → Int) (VC : Array Value) : Prop where
  set : ∃ (kw : Nat) (ch : Int), kw ≤ N ∧ (1 ≤ kw → ch = sq ps T n (kw - 1)) ∧ SetAt x 0 sb vb ib pb cb n T ((kw : Nat) : Int) ch ps (Plain.cnt ps T n kw) VC
  seq : x.heap[gb]? = some (.cells (rowF N (fun k => sq ps T n k)) 3 (0, 0))
  below : Below w.heap.size w x
  ns : w.heap.size ≤ sb
  nc : w.heap.size ≤ cb
  gs : gb ≠ sb
  gc : gb ≠ cb

def LookS (w : World) (b2 o2 b3 o3 : Nat) (h r : Int) (sb vb ib pb cb gb n N : Nat) (T : Int) (ps : Nat → Int) (VC : Array Value) (x : World) : Prop :=
  x.cell? ⟨b2, o2, none⟩ = some (.int .i64 h) ∧ x.cell? ⟨b3, o3, none⟩ = some (.int .i32 r) ∧ ScrAt w x sb vb ib pb cb gb n N T ps VC
section
variable {w x x' : World} {b2 o2 b3 o3 sb vb ib pb cb gb n N p : Nat} {h r T : Int} {ps : Nat → Int} {VC : Array Value} {e : Ending}
theorem ScrAt.grow (hs : ScrAt w x sb vb ib pb cb gb n N T ps VC) (hb : Below x.heap.size x x') : ScrAt w x' sb vb ib pb cb gb n N T ps VC := by
  obtain ⟨⟨kw, ch, h1, h2, h3⟩, hq, hbl, ns, nc, gs, gc⟩ := hs
  exact ⟨⟨kw, ch, h1, h2, h3.grow (fun k hk _ => hb.block k hk)⟩, (hb.block _ (heap_lt hq)).trans hq, hbl.trans (hb.mono hbl.size), ns, nc, gs, gc⟩
theorem ScrAt.ask (hs : ScrAt w x sb vb ib pb cb gb n N T ps VC) (hp : PropPost sb vb ib pb cb n p T ps VC x e x') (hpN : p < N) : ScrAt w x' sb vb ib pb cb gb n N T ps VC := by
  obtain ⟨_, hq, hbl, ns, nc, gs, gc⟩ := hs
  exact ⟨⟨p + 1, _, by omega, fun _ => rfl, hp.set⟩, (hp.turn.block _ (heap_lt hq) (by simp [gs, gc])).trans hq, Turn.below hbl hp.turn (by simp; exact ⟨ns, nc⟩), ns, nc, gs, gc⟩
theorem lookS_drew (hs : LookS w b2 o2 b3 o3 h r sb vb ib pb cb gb n N T ps VC x) : LookS w b2 o2 b3 o3 h r sb vb ib pb cb gb n N T ps VC x.drew :=
  ⟨hs.1, hs.2.1, hs.2.2.grow ⟨rfl, rfl, rfl, Nat.le_refl _, fun _ _ => rfl⟩⟩
theorem lookS_below (hs : LookS w b2 o2 b3 o3 h r sb vb ib pb cb gb n N T ps VC x) (hb : Below x.heap.size x x') : LookS w b2 o2 b3 o3 h r sb vb ib pb cb gb n N T ps VC x' :=
  ⟨(hb.cell (block_lt_of_cell hs.1)).trans hs.1, (hb.cell (block_lt_of_cell hs.2.1)).trans hs.2.1, hs.2.2.grow hb⟩
theorem lookS_alloc (hs : LookS w b2 o2 b3 o3 h r sb vb ib pb cb gb n N T ps VC x) (o : Obj) : LookS w b2 o2 b3 o3 h r sb vb ib pb cb gb n N T ps VC (x.alloc o) :=
  lookS_below hs ((Below.refl _ _).alloc (Nat.le_refl _) _)
theorem lookS_ask (hs : LookS w b2 o2 b3 o3 h r sb vb ib pb cb gb n N T ps VC x) (hp : PropPost sb vb ib pb cb n p T ps VC x e x') (hpN : p < N) (h2 : b2 < w.heap.size) (h3 : b3 < w.heap.size) : LookS w b2 o2 b3 o3 h r sb vb ib pb cb gb n N T ps VC x' := by
  have hn := hs.2.2.ask hp hpN
  have hc : ∀ b o, b < w.heap.size → x'.cell? ⟨b, o, none⟩ = x.cell? ⟨b, o, none⟩ := fun b o hb => (hn.below.cell (p := ⟨b, o, none⟩) hb).trans (hs.2.2.below.cell (p := ⟨b, o, none⟩) hb).symm
  exact ⟨(hc _ _ h2).trans hs.1, (hc _ _ h3).trans hs.2.1, hn⟩
theorem scr_there {y x1 : World} {C : Array Value} {sb cb : Nat} (ht : Turn [sb, cb] (y.alloc (.cells C 37)) x1) (hC : C.size = 23) (h1 : y.heap.size ≠ sb) (h2 : y.heap.size ≠ cb) : x1.heap[y.heap.size]? = some (.cells C 37 (0, 0)) ∧ x1.there y.heap.size 0 23 := by
  have hb : x1.heap[y.heap.size]? = some (.cells C 37 (0, 0)) := (ht.block _ (by simp) (by simp [h1, h2])).trans (Go.heap_alloc_new _ _)
  exact ⟨hb, fun j hj => ⟨by rw [cell_of_row _ _ _ _ _ _ hb]; simp; omega, frozen_of_row _ _ _ _ _ hb⟩⟩
theorem scr_stored {y x1 : World} {C : Array Value} {E : List Value} {sb cb : Nat} (ht : Turn [sb, cb] (y.alloc (.cells C 37)) x1) (hC : C.size = 23) (h1 : y.heap.size ≠ sb) (h2 : y.heap.size ≠ cb) (hl : E.length = 23) :
    (x1.setCells y.heap.size 0 E).heap[y.heap.size]? = some (.cells E.toArray 37 (0, 0)) := by
  rw [heap_setCells_at _ 37 _ _ _ _ (scr_there ht hC h1 h2).1, splice_all _ _ (by omega)]
theorem lookS_setNew {g : Nat} {E : List Value} (hs : LookS w b2 o2 b3 o3 h r sb vb ib pb cb gb n N T ps VC x) (hw : w.heap.size ≤ g) (l2 : b2 < w.heap.size) (l3 : b3 < w.heap.size) (q1 : g ≠ sb) (q2 : g ≠ vb) (q3 : g ≠ pb) (q4 : g ≠ cb) (q5 : g ≠ gb) :
    LookS w b2 o2 b3 o3 h r sb vb ib pb cb gb n N T ps VC (x.setCells g 0 E) := by
  have e : ∀ k, k ≠ g → (x.setCells g 0 E).heap[k]? = x.heap[k]? := fun k hk => heap_setCells_off _ _ _ _ _ hk
  obtain ⟨c2, c3, ⟨kw, ch, k1, k2, k3⟩, hq, hbl, ns, nc, gs, gc⟩ := hs
  refine ⟨?_, ?_, ⟨kw, ch, k1, k2, k3.grow (fun k _ hk => e k (by omega))⟩, (e _ (Ne.symm q5)).trans hq, ?_, ns, nc, gs, gc⟩
  · rw [World.cell?_setCells_out g E 0 x ⟨b2, o2, none⟩ (fun he _ => absurd he (by simp; omega))]; exact c2
  · rw [World.cell?_setCells_out g E 0 x ⟨b3, o3, none⟩ (fun he _ => absurd he (by simp; omega))]; exact c3
  · exact ⟨(os_setCells _ _ _ _).trans hbl.os, (tape_setCells _ _ _ _).trans hbl.tape, (output_setCells _ _ _ _).trans hbl.output, by rw [size_setCells]; exact hbl.size, fun j hj => (e j (by omega)).trans (hbl.block j hj)⟩
end
theorem scr_ask {w x : World} {b2 o2 b3 o3 sb vb ib pb cb gb n N p : Nat} {h r T : Int} {ps : Nat → Int} {VC : Array Value} {nm : Nat → ByteArray} {E : List Value} (hval : ValOk VC n n nm ps) (hpl : ∀ i, i < n → 0 ≤ ps i ∧ ps i ≤ 65536)
    (hT : T = N) (hN0 : 0 < N) (hN1 : N ≤ 65536) (hn : 0 < n) (hn2 : n ≤ 4096) (g1 : 1 ≤ h) (g3 : h ≤ 9223372036854775807) (g2 : 0 ≤ r) (g4 : r ≤ 2147483647) (hp : ((h - 1) % T + r % T) % T = p) (hpN : p < N)
    (hE : VC.extract (sq ps T n p * 23) (sq ps T n p * 23 + 23) = E.toArray) (hs : LookS w b2 o2 b3 o3 h r sb vb ib pb cb gb n N T ps VC x) :
    Calls Try.prog 9 #[.pointer (some ⟨sb, 0, none⟩), .int .i64 h, .int .i32 r] x fun e x' => e = .returned (.agg E.toArray) ∧
      (b2 < w.heap.size → b3 < w.heap.size → LookS w b2 o2 b3 o3 h r sb vb ib pb cb gb n N T ps VC x' ∧ Turn [sb, cb] x x') := by
  obtain ⟨kw, ch, h1, h2, h3⟩ := hs.2.2.set
  refine (prop_any sb vb ib pb cb n N kw p T ch h r ps VC x h3 h2 hn hn2 hT hN0 hN1 h1 g1 g3 g2 g4 hval.size hval.one hpl hp hpN).mono ?_
  intro e x' hpp
  exact ⟨by rw [hpp.ret, hE], fun l2 l3 => ⟨lookS_ask hs hpp hpN l2 l3, hpp.turn⟩⟩
def LookG (b0 o0 b1 o1 g : Nat) (s : ByteArray) (p : Int) (CL : List Value) (x : World) : Prop :=
  x.cell? ⟨g, 0, none⟩ = some (.string s) ∧ x.cell? ⟨g, 21, none⟩ = some (.slice none 0 0) ∧ x.cell? ⟨g, 22, none⟩ = some (.int .i64 p) ∧ x.rangeAt g 1 CL ∧ x.cell? ⟨b0, o0, none⟩ = some (.string s) ∧ x.cell? ⟨b1, o1, none⟩ = some (.int .i64 p)
theorem lookG_drew {b0 o0 b1 o1 g : Nat} {s : ByteArray} {p : Int} {CL : List Value} {x : World} (h : LookG b0 o0 b1 o1 g s p CL x) : LookG b0 o0 b1 o1 g s p CL x.drew := h
theorem lookG_below {b0 o0 b1 o1 g : Nat} {s : ByteArray} {p : Int} {CL : List Value} {x x' : World} (h : LookG b0 o0 b1 o1 g s p CL x) (hb : Below x.heap.size x x') : LookG b0 o0 b1 o1 g s p CL x' := by
  obtain ⟨h1, h2, h3, h4, h5, h6⟩ := h
  have hl : g < x.heap.size := block_lt_of_cell h1
  have hc : ∀ o, x'.cell? ⟨g, o, none⟩ = x.cell? ⟨g, o, none⟩ := fun o => hb.cell (p := ⟨g, o, none⟩) hl
  exact ⟨(hc _).trans h1, (hc _).trans h2, (hc _).trans h3, fun j v hv => (hc _).trans (h4 j v hv), (hb.cell (block_lt_of_cell h5)).trans h5, (hb.cell (block_lt_of_cell h6)).trans h6⟩
theorem lookG_mk {b0 o0 b1 o1 g c nq : Nat} {s : ByteArray} {p : Int} {CL E : List Value} {x : World} (hg : x.heap[g]? = some (.cells E.toArray 37 (0, 0))) (hE : E = (valCells s c p).toList) (hC : CL = (addrCells c).toList)
    (h5 : x.cell? ⟨b0, o0, none⟩ = some (.string s)) (h6 : x.cell? ⟨b1, o1, none⟩ = some (.int .i64 p)) : LookG b0 o0 b1 o1 g s p CL (x.drewN nq) := by
  have hc : ∀ o, (x.drewN nq).cell? ⟨g, o, none⟩ = (valCells s c p)[o]? := fun o => by
    show x.cell? ⟨g, o, none⟩ = _
    rw [cell_of_row _ _ _ _ _ _ hg, hE]
  refine ⟨?_, ?_, ?_, fun j v hv => ?_, h5, h6⟩
  · rw [hc]; unfold valCells; rw [Array.getElem?_append_left (by simp [addrCells_size]), Array.getElem?_append_left (by simp)]; rfl
  · rw [hc]; unfold valCells; rw [Array.getElem?_append_right (by simp [addrCells_size])]; simp [addrCells_size]
  · rw [hc]; unfold valCells; rw [Array.getElem?_append_right (by simp [addrCells_size])]; simp [addrCells_size]
  · rw [hC] at hv
    have hj : j < 20 := by have := (List.getElem?_eq_some_iff.1 hv).1; simpa [addrCells_size] using this
    rw [hc]; unfold valCells
    rw [Array.getElem?_append_left (by simp [addrCells_size]; omega), Array.getElem?_append_right (by simp)]
    simpa using hv
theorem place_list (j n : Nat) (CL : List Value) (w : World) (hn : n ≤ 4096) (hj : j < n) (hC : CL.toArray = addrCells j) :
    Calls Try.prog 11 #[.agg CL.toArray, .int .i64 n] w fun e w' => e = .returned (.int .i64 j) ∧ Below w.heap.size w w' := by
  rw [hC]; exact place_any j n w hn hj
attribute [local go_sem ↓] st37_in
attribute [local go_sem] st37_new st37_eq

set_option maxRecDepth 100000 in
set_option maxHeartbeats 2000000 in
theorem scr_main (a2 a3 : Option Addr) (b0 o0 c0 b1 o1 c1 c2 c3 m : Nat) (zs : List Int) (nm : Nat → ByteArray) (hs rs : Nat → Int) (w : World) (hn : zs.length ≤ 4096) (hm : m ≤ 4096) (hp : 0 < zs.length)
    (hnm : ∀ i, i < zs.length → w.cell? ⟨b0, o0 + i, none⟩ = some (.string (nm i))) (hrow : RowAt w b1 o1 zs)
    (hhs : SliceOf w a2 m (fun i => .int .i64 (hs i))) (hrs : SliceOf w a3 m (fun i => .int .i32 (rs i))) (hb1 : ∀ i, hs i ≤ 9223372036854775807) (hb2 : ∀ i, rs i ≤ 2147483647) :
    Calls Try.prog 3 #[.slice (some ⟨b0, o0, none⟩) zs.length c0, .slice (some ⟨b1, o1, none⟩) zs.length c1, .slice a2 m c2, .slice a3 m c3] w fun e w' => LawPost w e w' := by
  have ml : zs.length ≤ maxLen := by unfold maxLen; omega
  have mm : m ≤ maxLen := by unfold maxLen; omega
  have hS0 : SliceOf w (some ⟨b0, o0, none⟩) zs.length (fun i => .string (nm i)) := fun _ => ⟨b0, o0, rfl, hnm⟩
  go_enter Try.func3, Try.ntmps3
  go_wp2_with fail
  refine (bytes5 _ _ _ _ _ _ _ _ _ _ _ _ nm _ ml ml mm mm hS0).mono ?_
  rintro e w1 ⟨bl, rfl, hw1⟩
  subst w1
  clear hS0
  cases bl
  case false =>
    go_wp2_with fail
    go_ret
    exact lawPost_same w
  case true =>
    go_wp2_with fail
    go_loop [9, 10] (fun z i => ∃ k : Nat, k ≤ zs.length ∧ i = .int .i64 k ∧ ∃ q : Int, z = .int .i64 q) (fun _ i => zs.length - (intOf i).toNat)
    case atStart => exact ⟨0, Nat.zero_le _, rfl, _, rfl⟩
    case round =>
      obtain ⟨k, hk, rfl, q, rfl⟩ := hrel
      by_cases hlt : k < zs.length
      · have hck := hnm k hlt
        by_cases hbig : 1048576 < wrap64 (q + wrap64 (16 + ((nm k).size : Int)))
        · go_wp2_with fail
          go_ret
          exact lawPost_same w
        · go_wp2_with fail
          go_round
          case rel => exact ⟨k + 1, by omega, by go_num, _, rfl⟩
          case measure => simp [intOf]; omega
      · obtain rfl : k = zs.length := by omega
        go_wp2_with fail
        refine (total_some _ _ _ _ _ ml hp hrow).mono ?_
        rintro e w1 ⟨t, ok, rfl, hw1, hok⟩
        subst w1
        cases ok
        case false =>
          go_wp2_with fail
          go_ret
          exact lawPost_same w
        case true =>
          obtain ⟨_, rfl, hpow⟩ := hok rfl
          have hsum := sumF_pw zs
          have hge := sumF_ge (pw zs) zs.length (fun i hi => pw_pos hpow i hi)
          have ht1 := hpow.2
          have ht0 : (zs.length : Int) ≤ sumL zs := by rw [← hsum]; exact hge.1
          obtain ⟨N, hN⟩ : ∃ N : Nat, sumL zs = N := ⟨(sumL zs).toNat, by omega⟩
          generalize hT : sumL zs = T at *
          have hT1 : 0 < T := by omega
          have HT : Hid (T = N) := hN
          have HQ : Hid (∀ i, i < zs.length → 0 ≤ pw zs i ∧ pw zs i ≤ 65536) := fun i hi => pw_le hpow i hi
          have HC : Hid (∀ i, i < zs.length → w.cell? ⟨b1, o1 + i, none⟩ = some (.int .i64 (pw zs i))) := hrow
          have HN : Hid (∀ i, i < zs.length → w.cell? ⟨b0, o0 + i, none⟩ = some (.string (nm i))) := hnm
          have hNp : 0 < N := by omega
          have hNl : N ≤ 65536 := by omega
          clear hsum hN hpow hT hge hok hrow hnm ml mm hlt hk
          generalize zs.length = n at *
          generalize pw zs = ps at *
          go_wp2_with fail
          go_loop [13] (fun i => ∃ k : Nat, k ≤ m ∧ i = .int .i64 k ∧ Hid (∀ j, j < k → 1 ≤ hs j ∧ 0 ≤ rs j)) (fun i => m - (intOf i).toNat)
          case atStart => exact ⟨0, Nat.zero_le _, rfl, fun j hj => absurd hj (by omega)⟩
          case round =>
            obtain ⟨k, hk, rfl, HG⟩ := hrel
            by_cases hlt : k < m
            · obtain ⟨b2, o2, rfl, hc2⟩ := hhs (by omega)
              obtain ⟨b3, o3, rfl, hc3⟩ := hrs (by omega)
              have hk2 := hc2 k hlt
              have hk3 := hc3 k hlt
              clear hc2 hc3
              by_cases h1 : hs k < 1
              · go_wp2_with fail
                go_ret
                exact lawPost_same w
              · by_cases h2 : rs k < 0
                · go_wp2_with fail
                  go_ret
                  exact lawPost_same w
                · go_wp2_with fail
                  go_round
                  case rel =>
                    refine ⟨k + 1, by omega, by go_num, fun j hj => ?_⟩
                    by_cases e : j = k
                    · subst e; omega
                    · exact HG.out j (by omega)
                  case measure => simp [intOf]; omega
            · obtain rfl : k = m := by omega
              go_wp2_with fail
              refine (build_any _ nm _ _ _ _ _ _ _ hp hn (.inr ⟨b0, o0, c0, rfl, HN.out⟩) HC.out).mono ?_
              rintro e w1 ⟨⟨sb, vb, ib, pb, cb, VC, rfl, hset, hval, nsb, ncb⟩, hbel⟩
              go_wp2_with fail
              refine (seq_any b1 o1 c1 n N T ps _ hp hn HT.out hNp hNl (fun i hi => (hbel.cell (block_lt_of_cell (HC.out i hi))).trans (HC.out i hi)) HQ.out).mono ?_
              rintro e w2 ⟨⟨gb, hgb, rfl, hseq⟩, hbel2⟩
              have hsc : ScrAt w w2 sb vb ib pb cb gb n N T ps VC := by
                have h1 := heap_lt hset.walk.set
                have h2 := heap_lt hset.walk.cnt
                have e0 : Plain.cnt ps T n 0 = fun _ => 0 := by funext i; exact cnt_zero ps T n i
                refine ⟨⟨0, 0, by omega, fun h => absurd h (by omega), ?_⟩, hseq, hbel.trans (hbel2.mono hbel.size), nsb, ncb, by omega, by omega⟩
                rw [e0]
                exact hset.grow (fun k hk _ => hbel2.block k hk)
              clear hset hbel hseq hbel2
              go_wp2_with fail
              go_loopg [17, 18, 19] k (fun g i _ _ wr => ∃ j : Nat, j + g = k ∧ i = .int .i64 j ∧ ScrAt w wr sb vb ib pb cb gb n N T ps VC)
              case atStart => exact ⟨0, by omega, rfl, hsc⟩
              case round =>
                clear hsc
                obtain ⟨j, hj, rfl, hsc⟩ := hrel
                by_cases hlt2 : j < k
                · obtain ⟨b2, o2, rfl, hc2⟩ := hhs (by omega)
                  obtain ⟨b3, o3, rfl, hc3⟩ := hrs (by omega)
                  have l2 := block_lt_of_cell (hc2 j hlt2)
                  have l3 := block_lt_of_cell (hc3 j hlt2)
                  have hL : LookS w b2 (o2 + j) b3 (o3 + j) (hs j) (rs j) sb vb ib pb cb gb n N T ps VC wr := ⟨(hsc.below.cell l2).trans (hc2 j hlt2), (hsc.below.cell l3).trans (hc3 j hlt2), hsc⟩
                  clear hc2 hc3 hhs hrs
                  obtain ⟨g1, g2⟩ := HG.out j hlt2
                  have g3 := hb1 j
                  have g4 := hb2 j
                  obtain ⟨p, hpp⟩ : ∃ p : Nat, ((hs j - 1) % T + rs j % T) % T = p := ⟨(((hs j - 1) % T + rs j % T) % T).toNat, by have := Int.emod_nonneg ((hs j - 1) % T + rs j % T) (show T ≠ 0 by omega); omega⟩
                  have hpN : p < N := by have := Int.emod_lt_of_pos ((hs j - 1) % T + rs j % T) hT1; have := HT.out; omega
                  have HPP : Hid (((hs j - 1) % T + rs j % T) % T = p) := hpp
                  clear hpp
                  have i0 : (0 : Int) ≤ (j : Int) := by omega
                  have i1 : (j : Int) < (k : Int) := by omega
                  obtain ⟨cc, hcc⟩ : ∃ cc, cc = sq ps T n p := ⟨_, rfl⟩
                  have hcn : cc < n := by rw [hcc]; exact sq_lt ps T n (by omega) p
                  have HCC : Hid (cc = sq ps T n p) := hcc
                  clear hcc
                  obtain ⟨E, hE⟩ : ∃ E, E = (valCells (nm cc) cc (ps cc)).toList := ⟨_, rfl⟩
                  have hEl : E.length = 23 := by rw [hE]; exact valCells_len _ _ _
                  have hE1 : AllOne E := by rw [hE]; exact valCells_one _ _ _
                  have HE : Hid (VC.extract (sq ps T n p * 23) (sq ps T n p * 23 + 23) = E.toArray) := by
                    unfold Hid
                    rw [← HCC.out, hval.at_ cc hcn, hE, Array.toArray_toList]
                  obtain ⟨CL, hCL⟩ : ∃ CL, CL = (addrCells cc).toList := ⟨_, rfl⟩
                  have hu := Try.underlying33
                  have hi : (Try.prog.info? 33).map (·.size) = some CL.length := by rw [Try.size33, hCL]; simp [addrCells_size]
                  have HCL : Hid (CL.toArray = addrCells cc) := by unfold Hid; rw [hCL, Array.toArray_toList]
                  have HCM : Hid (CL = (addrCells cc).toList) := hCL
                  clear hCL
                  have HEE : Hid (E = (valCells (nm cc) cc (ps cc)).toList) := hE
                  clear hE
                  obtain ⟨q1, q2, q3, q4, q5⟩ : wr.heap.size ≠ sb ∧ wr.heap.size ≠ vb ∧ wr.heap.size ≠ pb ∧ wr.heap.size ≠ cb ∧ wr.heap.size ≠ gb := by
                    obtain ⟨kw, ch, _, _, k3⟩ := hsc.set
                    have := heap_lt k3.walk.set
                    have := heap_lt k3.walk.pow
                    have := heap_lt k3.walk.cnt
                    have := heap_lt k3.vals
                    have := heap_lt hsc.seq
                    omega
                  have hws := hsc.below.size
                  clear hsc
                  go_wp2_with fail
                  go_region_held3 (fun x => x.cell? ⟨b2, o2 + j, none⟩ = some (.int .i64 (hs j)) ∧ x.cell? ⟨b3, o3 + j, none⟩ = some (.int .i32 (rs j)) ∧ ScrAt w x sb vb ib pb cb gb n N T ps VC)
                    (first | (exact lookS_drew (by assumption)) | (exact lookS_alloc (by assumption) _) | (exact lookS_setNew (by assumption) hws l2 l3 q1 q2 q3 q4 q5) | assumption)
                    (first | (go_at_call 9; refine (scr_ask hval HQ.out HT.out hNp hNl hp hn g1 g3 g2 g4 HPP.out hpN HE.out (by assumption)).mono ?_; rintro e x1 ⟨rfl, hask⟩; obtain ⟨hx1, htn1⟩ := hask l2 l3; clear hask; (try have hth : x1.there wr.heap.size 0 23 := (scr_there (y := wr.drew) htn1 (by rfl) q1 q4).2)))
                  all_goals
                    first
                    | (have hgX : (x1.setCells wr.heap.size 0 E).heap[wr.heap.size]? = some (.cells E.toArray 37 (0, 0)) := scr_stored (y := wr.drew) htn1 (by rfl) q1 q4 hEl
                       have hLX := lookS_setNew (E := E) hx1 hws l2 l3 q1 q2 q3 q4 q5
                       clear hth htn1 hx1
                       generalize x1.setCells wr.heap.size 0 E = X at *
                       generalize wr.heap.size = g at *)
                    | (have hgX : (x1.alloc (.cells E.toArray 37)).heap[x1.heap.size]? = some (.cells E.toArray 37 (0, 0)) := Go.heap_alloc_new _ _
                       have hLX := lookS_alloc hx1 (.cells E.toArray 37)
                       clear htn1 hx1
                       generalize x1.alloc (.cells E.toArray 37) = X at *
                       generalize x1.heap.size = g at *)
                    clear hL hws q1 q2 q3 q4 q5
                    obtain ⟨k2, k3, hsX⟩ := hLX
                    have kq : X.cell? ⟨gb, p, none⟩ = some (.int .i64 cc) := by rw [cell_of_row _ _ _ _ _ _ hsX.seq, rowF_get _ _ _ hpN, ← HCC.out]
                    have p0 : (0 : Int) ≤ (p : Int) := by omega
                    have p1 : (p : Int) < (N : Int) := by omega
                    have c0 : (0 : Int) ≤ (cc : Int) := by omega
                    have c1 : (cc : Int) < (n : Int) := by omega
                    go_wp2_with fail
                    go_quiet ((go_at_call 10; exact Calls.quiet_of_same (pos_any (hs j) (rs j) T p _ g1 g3 g2 g4 hT1 ht1 HPP.out)))
                    go_wp2_with fail
                    have hG : LookG b0 (o0 + cc) b1 (o1 + cc) g (nm cc) (ps cc) CL (X.drewN nq) := lookG_mk hgX HEE.out HCM.out ((hsX.below.cell (block_lt_of_cell (HN.out cc hcn))).trans (HN.out cc hcn)) ((hsX.below.cell (block_lt_of_cell (HC.out cc hcn))).trans (HC.out cc hcn))
                    have hsX2 : ScrAt w (X.drewN nq) sb vb ib pb cb gb n N T ps VC := hsX.grow ⟨rfl, rfl, rfl, Nat.le_refl _, fun _ _ => rfl⟩
                    clear k2 k3 kq hsX hgX
                    generalize X.drewN nq = Y at *
                    go_region_held3 (fun x => x.cell? ⟨g, 0, none⟩ = some (.string (nm cc)) ∧ x.cell? ⟨g, 21, none⟩ = some (.slice none 0 0) ∧ x.cell? ⟨g, 22, none⟩ = some (.int .i64 (ps cc)) ∧ x.rangeAt g 1 CL ∧ x.cell? ⟨b0, o0 + cc, none⟩ = some (.string (nm cc)) ∧ x.cell? ⟨b1, o1 + cc, none⟩ = some (.int .i64 (ps cc)))
                      (first | (exact lookG_drew (by assumption)) | (exact lookG_below (by assumption) (by assumption)) | assumption)
                      (first | (go_at_call 11; refine (place_list cc n CL _ hn hcn HCL.out).mono ?_; rintro e x2 ⟨rfl, hb2⟩))
                    go_wp2_with fail
                    go_roundg (k - (j + 1))
                    case measure => omega
                    case rel => exact ⟨j + 1, by omega, by go_num, (hsX2.grow (x' := Y.drew) ⟨rfl, rfl, rfl, Nat.le_refl _, fun _ _ => rfl⟩).grow hb2⟩
                · go_wp2_with fail
                  go_ret
                  exact ⟨rfl, hsc.below⟩
end Go.Proofs.Qxb6630756a
