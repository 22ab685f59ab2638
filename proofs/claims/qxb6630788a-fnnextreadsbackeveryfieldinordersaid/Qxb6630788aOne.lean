import Derived.Test.Qxb6630788aNext
namespace Go.Proofs.Qxb6630788a
open Go.RowKit

def LawPost (w : World) (e : Ending) (w' : World) : Prop := e = .returned (.bool true) ∧ Below w.heap.size w w'
theorem lawPost_same (w : World) : LawPost w (.returned (.bool true)) w := ⟨rfl, Below.refl _ _⟩

/-- A slice of bytes, told by the list of them. -/
def BytesAt (w : World) (a : Option Addr) (l : List Int) : Prop := SliceOf w a l.length (fun i => .int .u8 (l.getD i 0))
theorem BytesAt.grow {w w' : World} {a : Option Addr} {l : List Int} {B : Nat} (h : BytesAt w a l) (hb : Below B w w') (hB : w.heap.size ≤ B) : BytesAt w' a l := by
  intro hp
  obtain ⟨b, o, rfl, hc⟩ := h hp
  exact ⟨b, o, rfl, fun i hi => (hb.cell (p := ⟨b, o + i, none⟩) (Nat.lt_of_lt_of_le (block_lt_of_cell (hc i hi)) hB)).trans (hc i hi)⟩
theorem BytesAt.drewN {w : World} {a : Option Addr} {l : List Int} (h : BytesAt w a l) (m : Nat) : BytesAt (w.drewN m) a l := h
theorem src_of {w : World} {a : Option Addr} {l : List Int} {c : Nat} (h : BytesAt w a l) : Src Try.prog 1 22 (.slice a l.length c) l.length (cellsB l) w := by
  cases a with
  | none =>
    have h0 : l.length = 0 := by
      by_cases hp : 0 < l.length
      · obtain ⟨b, o, he, _⟩ := h hp; cases he
      · omega
    obtain rfl := List.length_eq_zero_iff.1 h0
    exact Src.ofNil w Try.underlying22 c
  | some x =>
    refine Src.ofSlice w Try.underlying22 x l.length c (cellsB l) (by rw [cellsB_len, Nat.mul_one]) (fun j u hu => ?_) (cellsB_one l)
    have hj : j < l.length := by have := (List.getElem?_eq_some_iff.1 hu).1; rwa [cellsB_len] at this
    obtain ⟨b, o, he, hc⟩ := h (by omega)
    cases he
    rw [Addr.add_mid, hc j hj, ← hu]
    simp [cellsB, List.getD_eq_getElem?_getD, List.getElem?_eq_getElem hj]
def zerosB (n : Nat) : Array Value := madeCells #[.int .u8 0] n
theorem makeB (n : Nat) (hn : n ≤ 4294967296) (c : Int) (hc : c = n) (w : World) :
    (Instr.makeSlice 22 (.int .i64 0) (.int .i64 c)).run Try.prog w = .ok (.slice (some ⟨w.heap.size, 0, none⟩) 0 n) (w.alloc (.cells (zerosB n) 5)) := by
  subst hc
  obtain ⟨i, hi, hzz⟩ := Option.map_eq_some_iff.1 Try.info5
  simp only [Prod.mk.injEq] at hzz
  obtain ⟨hz, hs, hb⟩ := hzz
  have hr := run_make (P := Try.prog) w 22 5 i (.int .u8 0) Try.underlying22 hi hz .i64 .i64 0 n (by omega) (by omega) (by rw [hb]; omega) (by omega)
  simp only [Int.toNat_natCast, hs, Nat.mul_one] at hr
  exact hr
theorem data_first (w : World) (C : Nat) : DataAt (w.alloc (.cells (zerosB C) 5)) w.heap.size C [] :=
  ⟨⟨zerosB C, Go.heap_alloc_new _ _, by simp [zerosB, madeCells], fun i hi => absurd hi (by simp)⟩, by simp⟩

theorem wpList_append_data (w : World) {ops : Array Oper} {rest : List Oper} {o : Oper} {a : Act} {Q : Exit → Act → World → Prop} (hg : o.guard = none) (s x : Operand)
    (hop : o.op = Op.call { callee := Callee.builtin Builtin.append, args := #[s, x], argTypes := #[22, 22] }) (g C : Nat) (l m : List Int) (b : Option Addr) (c n : Nat) (hn : n = l.length)
    (hs : a.eval s = .slice (some ⟨g, 0, none⟩) n C) (hx : a.eval x = .slice b m.length c) (hd : DataAt w g C l) (hm : l.length + m.length ≤ C) (hb : BytesAt w b m)
    (hK : ∀ w', DataAt w' g C (l ++ m) → Turn [g] w w' → wpList Try.prog ops Q rest (a.put o.dst (.slice (some ⟨g, 0, none⟩) (n + m.length) C)) w') :
    wpList Try.prog ops Q (o :: rest) a w := by
  subst hn
  refine wpList_append_room1 w hg s x 22 22 hop 5 (.int .u8 0) 1 Try.underlying22 Try.info5 g 0 l.length C hs _ hx m.length (cellsB m) (src_of hb) hm (fun j hj => ?_) (fun j hj => ?_) ?_
  · rw [cellsB_len] at hj
    rw [Nat.zero_add]; exact (hd.there _ (by omega)).1
  · rw [cellsB_len] at hj
    rw [Nat.zero_add]; exact (hd.there _ (by omega)).2
  · rw [Nat.zero_add]
    exact hK _ (hd.put hm) (Turn.setCells g (by simp) _ _ (Turn.refl _ _))
theorem DataAt.bytes {w : World} {g C : Nat} {l : List Int} (h : DataAt w g C l) (x y z : List Int) (e : l = x ++ y ++ z) (A : Addr) (hA : 0 < y.length → A = ⟨g, x.length, none⟩) : BytesAt w (some A) y := by
  intro hp
  refine ⟨g, x.length, by rw [hA hp], fun i hi => ?_⟩
  have hlt : x.length + i < l.length := by rw [e]; simp; omega
  rw [h.cell (x.length + i) hlt, e]
  have e2 : (x ++ y ++ z)[x.length + i]? = y[i]? := by
    rw [List.append_assoc, List.getElem?_append_right (by omega), List.getElem?_append_left (by omega), show x.length + i - x.length = i by omega]
  show some (Value.int .u8 _) = some (Value.int .u8 _)
  rw [List.getD_eq_getElem?_getD, e2, List.getD_eq_getElem?_getD]

set_option maxRecDepth 100000 in
set_option maxHeartbeats 1000000 in
theorem one_main (a0 a1 : Option Addr) (c0 c1 : Nat) (l0 l1 : List Int) (w : World) (h0 : l0.length ≤ 524288) (h1 : l1.length ≤ 524288) (hp : BytesAt w a0 l0) (ht : BytesAt w a1 l1) :
    Calls Try.prog 3 #[.slice a0 l0.length c0, .slice a1 l1.length c1] w fun e w' => LawPost w e w' := by
  obtain ⟨C, hC⟩ : ∃ C, C = l0.length + l1.length + 10 := ⟨_, rfl⟩
  have hmk := makeB C (by omega) ((l0.length : Int) + (l1.length : Int) + 10) (by omega)
  have hd : decide (l0.length + l1.length ≤ 1048576) = true := decide_eq_true (by omega)
  have HC : Hid (C = l0.length + l1.length + 10) := hC
  clear hC
  obtain ⟨u1, u3⟩ := uv_len l0.length
  go_enter Try.func3, Try.ntmps3
  go_wp2_with (go_at_call 5; refine (bytes5 _ _ _ _ _ _ _ (by omega) (by omega)).mono ?_; rintro e w1 ⟨rfl, hw1⟩; subst w1; rw [hd])
  have hf := data_first w C
  have hb0 : Below w.heap.size w (w.alloc (.cells (zerosB C) 5)) := (Below.refl _ _).alloc (Nat.le_refl _) _
  obtain ⟨g, hg⟩ : ∃ g, g = w.heap.size := ⟨_, rfl⟩
  rw [← hg] at hf ⊢
  have HG : Hid (g = w.heap.size) := hg
  clear hg hmk
  generalize w.alloc (.cells (zerosB C) 5) = W0 at *
  have hr0 : ([] : List Int).length + (uv l0.length).length ≤ C := by have := HC.out; simp; omega
  refine (put_any g C [] l0.length W0 hf (by omega) hr0 (by have := HC.out; omega)).mono ?_
  rintro e W1 ⟨rfl, hd1, ht1⟩
  have hb1 : Below w.heap.size w W1 := Turn.below hb0 ht1 (by simp; exact Nat.le_of_eq HG.out.symm)
  clear ht1 hf hb0
  rw [List.nil_append] at hd1 ⊢
  have hp1 : BytesAt W1 a0 l0 := hp.grow hb1 (Nat.le_refl _)
  have ht1 : BytesAt W1 a1 l1 := ht.grow hb1 (Nat.le_refl _)
  have hm1 : (uv l0.length).length + l0.length ≤ C := by have := HC.out; omega
  have hm2 : (uv l0.length ++ l0).length + l1.length ≤ C := by have := HC.out; simp; omega
  have hk : Hid ((uv l0.length).length + l0.length = (uv l0.length ++ l0).length) := by unfold Hid; simp
  have hgw : w.heap.size ≤ g := Nat.le_of_eq HG.out.symm
  go_wp2_with (first
    | (at_builtin; refine wpList_append_data W1 (by rfl) (.tmp 30) (.tmp 31) (by rfl) g C (uv l0.length) l0 a0 c0 (uv l0.length).length rfl (by rfl) (by rfl) hd1 hm1 hp1 ?_; intro W2 hd2 hx2; have hb2 : Below w.heap.size w W2 := Turn.below hb1 hx2 (by simp; exact hgw); have ht2 : BytesAt W2 a1 l1 := ht.grow hb2 (Nat.le_refl _); clear hd1 hb1 hp1 ht1 hx2)
    | (at_builtin; refine wpList_append_data _ (by rfl) (.tmp 33) (.tmp 34) (by rfl) g C (uv l0.length ++ l0) l1 a1 c1 ((uv l0.length).length + l0.length) hk.out (by rfl) (by rfl) (by assumption) hm2 (by assumption) ?_; intro W3 hd3 hx3; have hb3 : Below w.heap.size w W3 := Turn.below (by assumption) hx3 (by simp; exact hgw); clear hx3))
  have hgl := hd3.lt
  obtain ⟨X, hX⟩ : ∃ X, X = W3.alloc (Obj.cells #[Value.slice (some { block := g, off := 0 }) ((uv l0.length).length + l0.length + l1.length) C] 26) := ⟨_, rfl⟩
  have hd4 : DataAt X g C (uv l0.length ++ l0 ++ l1) := by rw [hX]; exact hd3.grow (Below.heap_alloc _ _ _ hgl)
  have hb4 : Below w.heap.size w X := by rw [hX]; exact hb3.alloc hb3.size _
  have hblk : X.heap[W3.heap.size]? = some (.cells #[Value.slice (some { block := g, off := 0 }) ((uv l0.length).length + l0.length + l1.length) C] 26 (0, 0)) := by rw [hX]; exact Go.heap_alloc_new _ _
  rw [← hX]
  clear hX hd3 hb2 ht2 hd2
  have hws := hb3.size
  clear hb3
  generalize W3.heap.size = fb at *
  have hcap : C ≤ 4294967296 := by have := HC.out; omega
  have hnx := next_any fb g 0 ((uv l0.length).length + l0.length + l1.length) C l0.length X (by omega) (by omega) (by have := HC.out; omega) hcap (by rw [cell_of_row _ _ _ _ _ _ hblk]; rfl) (frozen_of_row _ _ _ _ _ hblk)
    (fun j hj => by
      have := hd4.bytes [] (uv l0.length) (l0 ++ l1) (by simp) ⟨g, 0, none⟩ (fun _ => rfl) (by omega)
      obtain ⟨b, o, he, hc⟩ := this
      cases he
      exact hc j hj)
  refine hnx.mono ?_
  rintro e W5 ⟨A, B, rfl, hA, hW5, hB⟩
  have hd5 : DataAt W5 g C (uv l0.length ++ l0 ++ l1) := by rw [hW5]; exact hd4.grow (heap_setCell_other _ _ _ _ (by simp; omega))
  have hb5 : Below w.heap.size w W5 := by rw [hW5]; exact hb4.setCell hws _
  have hf5 : W5.cell? ⟨fb, 0, none⟩ = some (.slice (some B) l1.length (C - ((uv l0.length).length + l0.length))) := by
    rw [hW5, cell_of_row _ _ _ _ _ _ (heap_setCell_same _ _ _ _ _ _ hblk), show (uv l0.length).length + l0.length + l1.length - ((uv l0.length).length + l0.length) = l1.length by omega]; rfl
  clear hW5 hnx hblk hd4 hb4
  have hA5 : BytesAt W5 (some A) l0 := hd5.bytes (uv l0.length) l0 l1 rfl A (fun h => by rw [hA h, Nat.zero_add])
  have hB5 : BytesAt W5 (some B) l1 := hd5.bytes (uv l0.length ++ l0) l1 [] (by simp) B (fun h => by rw [hB (by have := HC.out; omega), Nat.zero_add]; simp)
  have hp5 : BytesAt W5 a0 l0 := hp.grow hb5 (Nat.le_refl _)
  have ht5 : BytesAt W5 a1 l1 := ht.grow hb5 (Nat.le_refl _)
  clear hd5 hA hB
  go_wp2_with fail
  refine (same_any (some A) a0 l0.length l0.length c0 (fun i => l0.getD i 0) W5 (by omega) hA5 hp5).mono ?_
  rintro e W6 ⟨rfl, m, hW6⟩
  subst W6
  go_wp2_with fail
  refine (same_any (some B) a1 l1.length _ c1 (fun i => l1.getD i 0) (W5.drewN m) (by omega) (hB5.drewN m) (ht5.drewN m)).mono ?_
  rintro e W7 ⟨rfl, m2, hW7⟩
  subst W7
  go_wp2_with fail
  go_ret
  exact ⟨rfl, hb5.os, hb5.tape, hb5.output, hb5.size, hb5.block⟩
end Go.Proofs.Qxb6630788a
