import Derived.Test.Qxb6630823aMemb
import Derived.Test.Qxb6630823aIn
import Derived.Test.Qxb6630823aIns
import Derived.Test.Qxb6630823aByA
import Derived.Test.Qxb6630823aBox
namespace Go.Proofs.Qxb6630823a
open Go.RowKit

set_option maxRecDepth 100000 in
set_option maxHeartbeats 8000000 in
theorem law3_any (x0 x1 x2 x3 : Int) (a1 a2 a3 a4 : Option Addr) (n1 n2 n3 n4 d1 d2 d3 d4 : Nat) (m1 m2 m3 m4 : Nat → M3) (nm : M3) (id : ByteArray) (w : World)
    (b1 : n1 ≤ 9223372036854775807) (b2 : n2 ≤ 9223372036854775807) (b3 : n3 ≤ 9223372036854775807) (b4 : n4 ≤ 9223372036854775807)
    (l1 : a1 = none → n1 = 0 ∧ d1 = 0) (l2 : a2 = none → n2 = 0 ∧ d2 = 0) (l3 : a3 = none → n3 = 0 ∧ d3 = 0) (l4 : a4 = none → n4 = 0 ∧ d4 = 0)
    (h1 : MemsAt w a1 n1 m1) (h2 : MemsAt w a2 n2 m2) (h3 : MemsAt w a3 n3 m3) (h4 : MemsAt w a4 n4 m4) :
    Calls Try.prog 3 #[.int .u64 x0, .int .u64 x1, .int .u64 x2, .slice a1 n1 d1, .slice a2 n2 d2, .slice a3 n3 d3, .slice a4 n4 d4, .agg #[.string nm.id, .string nm.peer, .string nm.client], .int .u8 x3, .string id] w fun e w' => LawPost w e w' := by
  have L1 : Hid (a1 = none → n1 = 0 ∧ d1 = 0) := l1
  have L2 : Hid (a2 = none → n2 = 0 ∧ d2 = 0) := l2
  have L3 : Hid (a3 = none → n3 = 0 ∧ d3 = 0) := l3
  have L4 : Hid (a4 = none → n4 = 0 ∧ d4 = 0) := l4
  clear l1 l2 l3 l4
  go_enter Try.func3, Try.ntmps3
  have hbn := box_new w #[.string nm.id, .string nm.peer, .string nm.client] 25
  have hA := below_alloc w (Obj.cells #[.string nm.id, .string nm.peer, .string nm.client] 25)
  have e0 := hbn.cell 0 (.string nm.id) rfl
  have e1 := hbn.cell 1 (.string nm.peer) rfl
  have e2 := hbn.cell 2 (.string nm.client) rfl
  go_wp2_with fail
  clear e0 e1 e2
  generalize w.alloc (Obj.cells #[.string nm.id, .string nm.peer, .string nm.client] 25) = y0 at *
  generalize hN : w.heap.size = N at hbn ⊢
  clear hN
  refine (bytes5_any _ _ _ _ a1 a2 a3 a4 n1 n2 n3 n4 d1 d2 d3 d4 m1 m2 m3 m4 nm id y0 (h1.grow hA (Nat.le_refl _)) (h2.grow hA (Nat.le_refl _)) (h3.grow hA (Nat.le_refl _)) (h4.grow hA (Nat.le_refl _))).mono ?_
  rintro e y1 ⟨⟨bl, rfl⟩, hb⟩
  replace hA := below_step hA hb
  replace hbn := hbn.grow hb
  clear hb
  cases bl
  · go_wp2_with fail
    go_ret
    exact ⟨rfl, hA⟩
  have e0 := hbn.cell 0 (.string nm.id) rfl
  have e1 := hbn.cell 1 (.string nm.peer) rfl
  have e2 := hbn.cell 2 (.string nm.client) rfl
  replace h1 := h1.grow hA (Nat.le_refl _)
  replace h2 := h2.grow hA (Nat.le_refl _)
  replace h3 := h3.grow hA (Nat.le_refl _)
  replace h4 := h4.grow hA (Nat.le_refl _)
  go_wp2_with fail
  all_goals first
    | (go_ret; exact ⟨rfl, hA⟩)
    | skip
  have hh : ((((n1 : Int) ≤ 65536 ∧ (n2 : Int) ≤ 65536) ∧ (n3 : Int) ≤ 65536) ∧ (n4 : Int) ≤ 65536) := by assumption
  replace b1 : n1 ≤ 65536 := by omega
  replace b2 : n2 ≤ 65536 := by omega
  replace b3 : n3 ≤ 65536 := by omega
  replace b4 : n4 ≤ 65536 := by omega
  clear hh
  refine (size_any a1 n1 d1 m1 _ _ (by omega) h1).mono ?_
  rintro e x ⟨z1, p, rfl, rfl⟩
  go_wp2_with fail
  all_goals first
    | (go_ret; exact ⟨rfl, below_drew hA _⟩)
    | skip
  refine (size_any a2 n2 d2 m2 _ _ (by omega) (h2.drewN _)).mono ?_
  rintro e x ⟨z2, p, rfl, rfl⟩
  go_wp2_with fail
  all_goals first
    | (go_ret; exact ⟨rfl, below_drew hA _⟩)
    | skip
  refine (size_any a3 n3 d3 m3 _ _ (by omega) (h3.drewN _)).mono ?_
  rintro e x ⟨z3, p, rfl, rfl⟩
  go_wp2_with fail
  all_goals first
    | (go_ret; exact ⟨rfl, below_drew hA _⟩)
    | skip
  refine (size_any a4 n4 d4 m4 _ _ (by omega) (h4.drewN _)).mono ?_
  rintro e x ⟨z4, p, rfl, rfl⟩
  go_wp2_with fail
  all_goals first
    | (go_ret; exact ⟨rfl, below_drew hA _⟩)
    | skip
  refine (sorted_any a1 n1 d1 m1 _ (by omega) (h1.drewN _)).mono ?_
  rintro e x ⟨bl, p, rfl, rfl, hs1⟩
  cases bl
  · go_wp2_with fail
    go_ret
    exact ⟨rfl, below_drew hA _⟩
  have HS1 : Hid (Sorted m1 n1) := hs1 rfl
  clear hs1
  go_wp2_with fail
  refine (sorted_any a2 n2 d2 m2 _ (by omega) (h2.drewN _)).mono ?_
  rintro e x ⟨bl, p, rfl, rfl, hs2⟩
  cases bl
  · go_wp2_with fail
    go_ret
    exact ⟨rfl, below_drew hA _⟩
  have HS2 : Hid (Sorted m2 n2) := hs2 rfl
  clear hs2
  go_wp2_with fail
  refine (sorted_any a3 n3 d3 m3 _ (by omega) (h3.drewN _)).mono ?_
  rintro e x ⟨bl, p, rfl, rfl, hs3⟩
  cases bl
  · go_wp2_with fail
    go_ret
    exact ⟨rfl, below_drew hA _⟩
  have HS3 : Hid (Sorted m3 n3) := hs3 rfl
  clear hs3
  go_wp2_with fail
  refine (has_any a1 n1 d1 m1 nm.id _ (by omega) (h1.drewN _)).mono ?_
  rintro e x ⟨he, hx⟩
  subst x
  cases hl1 : hasB m1 nm.id n1
  case true =>
    rw [hl1] at he
    subst he
    go_wp2_with fail
    go_ret
    exact ⟨rfl, below_drew hA _⟩
  rw [hl1] at he
  subst he
  have HN1 : Hid (look m1 nm.id n1 = none) := look_of_has hl1
  clear hl1
  go_wp2_with fail
  refine (has_any a2 n2 d2 m2 nm.id _ (by omega) (h2.drewN _)).mono ?_
  rintro e x ⟨he, hx⟩
  subst x
  cases hl2 : hasB m2 nm.id n2
  case true =>
    rw [hl2] at he
    subst he
    go_wp2_with fail
    go_ret
    exact ⟨rfl, below_drew hA _⟩
  rw [hl2] at he
  subst he
  have HN2 : Hid (look m2 nm.id n2 = none) := look_of_has hl2
  clear hl2
  go_wp2_with fail
  refine (has_any a3 n3 d3 m3 nm.id _ (by omega) (h3.drewN _)).mono ?_
  rintro e x ⟨he, hx⟩
  subst x
  cases hl3 : hasB m3 nm.id n3
  case true =>
    rw [hl3] at he
    subst he
    go_wp2_with fail
    go_ret
    exact ⟨rfl, below_drew hA _⟩
  rw [hl3] at he
  subst he
  have HN3 : Hid (look m3 nm.id n3 = none) := look_of_has hl3
  clear hl3
  go_wp2_with fail
  clear e0 e1 e2
  have hD : ∀ p, Below w.heap.size w (y1.drewN p) := fun p => below_drew hA p
  have hbD : ∀ p, Box (y1.drewN p) N #[.string nm.id, .string nm.peer, .string nm.client] 25 := fun p => hbn.grow (below_drew (Below.refl _ _) p)
  clear hbn hA
  refine (conv_any a1 n1 d1 m1 _ b1 L1.out (h1.drewN _)).mono ?_
  rintro e q1 ⟨⟨v1, c1, rfl, k1⟩, hb⟩
  have hA := below_step (hD _) hb
  have hbn := (hbD _).grow hb
  replace h1 := (h1.drewN _).grow hb (Nat.le_refl _)
  replace h2 := (h2.drewN _).grow hb (Nat.le_refl _)
  replace h3 := (h3.drewN _).grow hb (Nat.le_refl _)
  replace h4 := (h4.drewN _).grow hb (Nat.le_refl _)
  clear hb hD hbD
  go_wp2_with fail
  refine (conv_any a2 n2 d2 m2 _ b2 L2.out h2).mono ?_
  rintro e q2 ⟨⟨v2, c2, rfl, k2⟩, hb⟩
  replace hA := below_step hA hb
  replace hbn := hbn.grow hb
  replace k1 := k1.grow hb (Nat.le_refl _)
  replace h1 := h1.grow hb (Nat.le_refl _)
  replace h2 := h2.grow hb (Nat.le_refl _)
  replace h3 := h3.grow hb (Nat.le_refl _)
  replace h4 := h4.grow hb (Nat.le_refl _)
  clear hb
  go_wp2_with fail
  refine (conv_any a3 n3 d3 m3 _ b3 L3.out h3).mono ?_
  rintro e q3 ⟨⟨v3, c3, rfl, k3⟩, hb⟩
  replace hA := below_step hA hb
  replace hbn := hbn.grow hb
  replace k1 := k1.grow hb (Nat.le_refl _)
  replace k2 := k2.grow hb (Nat.le_refl _)
  replace h1 := h1.grow hb (Nat.le_refl _)
  replace h2 := h2.grow hb (Nat.le_refl _)
  replace h3 := h3.grow hb (Nat.le_refl _)
  replace h4 := h4.grow hb (Nat.le_refl _)
  clear hb
  go_wp2_with fail
  refine (conv_any a4 n4 d4 m4 _ b4 L4.out h4).mono ?_
  rintro e q4 ⟨⟨v4, c4, rfl, k4⟩, hb⟩
  replace hA := below_step hA hb
  replace hbn := hbn.grow hb
  replace k1 := k1.grow hb (Nat.le_refl _)
  replace k2 := k2.grow hb (Nat.le_refl _)
  replace k3 := k3.grow hb (Nat.le_refl _)
  replace h1 := h1.grow hb (Nat.le_refl _)
  replace h2 := h2.grow hb (Nat.le_refl _)
  replace h3 := h3.grow hb (Nat.le_refl _)
  replace h4 := h4.grow hb (Nat.le_refl _)
  clear hb
  have hNq := heap_lt hbn.at_
  have hwq := hA.size
  have hbb := (box_new q4 #[.int .u64 x0, .int .u64 x1, .int .u64 x2, .slice v1 n1 c1, .slice v2 n2 c2, .slice v3 n3 c3, .slice v4 n4 c4] 35).grow (below_alloc (q4.alloc (Obj.cells #[.int .u64 x0, .int .u64 x1, .int .u64 x2, .slice v1 n1 c1, .slice v2 n2 c2, .slice v3 n3 c3, .slice v4 n4 c4] 35)) (Obj.cells #[.int .u64 x0, .int .u64 x1, .int .u64 x2, .slice v1 n1 c1, .slice v2 n2 c2, .slice v3 n3 c3, .slice v4 n4 c4] 35))
  have hba := box_new (q4.alloc (Obj.cells #[.int .u64 x0, .int .u64 x1, .int .u64 x2, .slice v1 n1 c1, .slice v2 n2 c2, .slice v3 n3 c3, .slice v4 n4 c4] 35)) #[.int .u64 x0, .int .u64 x1, .int .u64 x2, .slice v1 n1 c1, .slice v2 n2 c2, .slice v3 n3 c3, .slice v4 n4 c4] 35
  have hC := below_step (below_alloc q4 (Obj.cells #[.int .u64 x0, .int .u64 x1, .int .u64 x2, .slice v1 n1 c1, .slice v2 n2 c2, .slice v3 n3 c3, .slice v4 n4 c4] 35)) (below_alloc (q4.alloc (Obj.cells #[.int .u64 x0, .int .u64 x1, .int .u64 x2, .slice v1 n1 c1, .slice v2 n2 c2, .slice v3 n3 c3, .slice v4 n4 c4] 35)) (Obj.cells #[.int .u64 x0, .int .u64 x1, .int .u64 x2, .slice v1 n1 c1, .slice v2 n2 c2, .slice v3 n3 c3, .slice v4 n4 c4] 35))
  replace hA := below_step hA hC
  replace hbn := hbn.grow hC
  replace h1 := h1.grow hC (Nat.le_refl _)
  replace h2 := h2.grow hC (Nat.le_refl _)
  replace h3 := h3.grow hC (Nat.le_refl _)
  have e0 := hbn.cell 0 (.string nm.id) rfl
  have e1 := hbn.cell 1 (.string nm.peer) rfl
  have e2 := hbn.cell 2 (.string nm.client) rfl
  have hz : ∀ w, (binOp .neq 37 (.agg #[.string { data := #[] }, .string { data := #[] }, .string { data := #[] }]) (.agg #[.string { data := #[] }, .string { data := #[] }, .string { data := #[] }])).run Try.prog w = .ok (.bool false) w := fun w => (neq37 w zero3 zero3).trans (by rw [eq3_refl]; rfl)
  have hne : ∀ r : M3, ∀ w, (binOp .neq 37 (.agg #[.string r.id, .string r.peer, .string r.client]) (.agg #[.string r.id, .string r.peer, .string r.client])).run Try.prog w = .ok (.bool false) w := fun r w => by rw [neq37, eq3_refl]; rfl
  have hg := guard37
  by_cases hx0 : x3 = 0
  · subst x3
    go_wp2_with fail
    clear e0 e1 e2
    have hsz : (q4.alloc (Obj.cells #[.int .u64 x0, .int .u64 x1, .int .u64 x2, .slice v1 n1 c1, .slice v2 n2 c2, .slice v3 n3 c3, .slice v4 n4 c4] 35)).heap.size = q4.heap.size + 1 := by simp
    rw [hsz] at hba
    obtain ⟨A, hAe⟩ : ∃ A, A = q4.heap.size + 1 := ⟨_, rfl⟩
    rw [← hAe] at hba ⊢
    have hAB : q4.heap.size ≠ A := by omega
    have hAN : N ≠ A := by omega
    have hAge : q4.heap.size ≤ A := by omega
    have hw4 : w.heap.size ≤ A := by omega
    clear hAe hsz
    generalize (q4.alloc (Obj.cells #[.int .u64 x0, .int .u64 x1, .int .u64 x2, .slice v1 n1 c1, .slice v2 n2 c2, .slice v3 n3 c3, .slice v4 n4 c4] 35)).alloc (Obj.cells #[.int .u64 x0, .int .u64 x1, .int .u64 x2, .slice v1 n1 c1, .slice v2 n2 c2, .slice v3 n3 c3, .slice v4 n4 c4] 35) = q5 at *
    have hAlt := heap_lt hba.at_
    refine (insert_any a1 n1 d1 m1 nm q5 b1 h1).mono ?_
    rintro e q6 ⟨⟨g, c, k, rfl, hgA, km, hk, hlo, hhi⟩, hb⟩
    have hgne : g ≠ A := by omega
    replace hA := below_step hA hb
    replace hbn := hbn.grow hb
    replace hbb := hbb.grow hb
    replace hba := hba.grow hb
    replace hC := hC.trans (hb.mono hC.size)
    clear hb h1 h2 h3 h4 hgA hAlt
    have u0 := hba.cell 3 _ rfl
    have u1 : q6.frozen? ⟨A, 3, none⟩ = false := frozen_of_row _ _ _ _ _ hba.at_
    have hS1 : Hid (Sorted (ins m1 nm k) (n1 + 1)) := sorted_ins HS1.out hk hlo hhi
    have hS2 : Hid (Sorted m2 n2) := HS2
    have hS3 : Hid (Sorted m3 n3) := HS3
    have HK : Hid (k ≤ n1) := hk
    clear hlo hhi hk
    replace hba : Box (q6.setCell ⟨A, 3, none⟩ (.slice (some ⟨g, 0, none⟩) (n1 + 1) c)) A #[.int .u64 x0, .int .u64 x1, .int .u64 x2, .slice (some ⟨g, 0, none⟩) (n1 + 1) c, .slice v2 n2 c2, .slice v3 n3 c3, .slice v4 n4 c4] 35 := hba.put 3 (.slice (some ⟨g, 0, none⟩) (n1 + 1) c)
    replace hbn := hbn.set hAN 3 (.slice (some ⟨g, 0, none⟩) (n1 + 1) c)
    replace hbb := hbb.set hAB 3 (.slice (some ⟨g, 0, none⟩) (n1 + 1) c)
    replace hA := hA.setCell (p := ⟨A, 3, none⟩) hw4 (.slice (some ⟨g, 0, none⟩) (n1 + 1) c)
    replace hC := hC.setCell (p := ⟨A, 3, none⟩) hAge (.slice (some ⟨g, 0, none⟩) (n1 + 1) c)
    replace km := km.set hgne 3 (.slice (some ⟨g, 0, none⟩) (n1 + 1) c)
    have hsz : (q6.setCell ⟨A, 3, none⟩ (.slice (some ⟨g, 0, none⟩) (n1 + 1) c)).heap.size = q6.heap.size := by simp [World.setCell]
    have e0 := hbn.cell 0 (.string nm.id) rfl
    have e1 := hbn.cell 1 (.string nm.peer) rfl
    have e2 := hbn.cell 2 (.string nm.client) rfl
    have hb := below_alloc (q6.setCell ⟨A, 3, none⟩ (.slice (some ⟨g, 0, none⟩) (n1 + 1) c)) (Obj.cells #[.string nm.id, .string nm.peer, .string nm.client] 37)
    have hbw := box_new (q6.setCell ⟨A, 3, none⟩ (.slice (some ⟨g, 0, none⟩) (n1 + 1) c)) #[.string nm.id, .string nm.peer, .string nm.client] 37
    rw [hsz] at hbw
    replace hA := below_step hA hb
    replace hbn := hbn.grow hb
    replace hbb := hbb.grow hb
    replace hba := hba.grow hb
    replace km := km.grow hb (Nat.le_refl _)
    replace hC := hC.trans (hb.mono hC.size)
    have hT := hbb
    have t0 := hT.cell 0 _ rfl
    have t1 := hT.cell 1 _ rfl
    have t2 := hT.cell 2 _ rfl
    have t3 := hT.cell 3 _ rfl
    have t4 := hT.cell 4 _ rfl
    have t5 := hT.cell 5 _ rfl
    have t6 := hT.cell 6 _ rfl
    have f0 := hbn.cell 0 (.string nm.id) rfl
    clear hb hsz hT
    go_wp2_with fail
    clear e0 e1 e2 t0 t1 t2 t3 t4 t5 t6 f0 u0 u1
    generalize (q6.setCell ⟨A, 3, none⟩ (.slice (some ⟨g, 0, none⟩) (n1 + 1) c)).alloc (Obj.cells #[.string nm.id, .string nm.peer, .string nm.client] 37) = r0 at *
    generalize hWt : q6.heap.size = Wt at hbw ⊢
    clear hWt
    replace k1 := k1.grow hC (Nat.le_refl _)
    replace k2 := k2.grow hC (Nat.le_refl _)
    replace k3 := k3.grow hC (Nat.le_refl _)
    generalize hBe : q4.heap.size = B at hbb ⊢
    clear hBe hC hAB hAN hAge hw4 hgne hNq hwq
    refine (memb_any (.int .u64 x0) (.int .u64 x1) (.int .u64 x2) (.slice v4 n4 c4) v1 v2 v3 n1 n2 n3 c1 c2 c3 m1 m2 m3 nm.id r0 (by omega) (by omega) (by omega) HS1.out HS2.out HS3.out k1 k2 k3).mono ?_
    rintro e r1 hpost
    obtain ⟨he, hb⟩ := memb_ret hpost (x := zero3) (b := false) (by rw [HN1.out, HN2.out, HN3.out]; rfl)
    clear hpost
    replace he : e = .returned (.tuple #[.agg #[.string { data := #[] }, .string { data := #[] }, .string { data := #[] }], .bool false]) := he
    subst he
    replace hb := below_step hb (below_alloc r1 (Obj.cells #[.string { data := #[] }, .string { data := #[] }, .string { data := #[] }] 37))
    replace hA := below_step hA hb
    replace hbn := hbn.grow hb
    replace hbb := hbb.grow hb
    replace hba := hba.grow hb
    replace hbw := hbw.grow hb
    replace km := km.grow hb (Nat.le_refl _)
    replace k1 := k1.grow hb (Nat.le_refl _)
    replace k2 := k2.grow hb (Nat.le_refl _)
    replace k3 := k3.grow hb (Nat.le_refl _)
    have hT := hba
    have t0 := hT.cell 0 _ rfl
    have t1 := hT.cell 1 _ rfl
    have t2 := hT.cell 2 _ rfl
    have t3 := hT.cell 3 _ rfl
    have t4 := hT.cell 4 _ rfl
    have t5 := hT.cell 5 _ rfl
    have t6 := hT.cell 6 _ rfl
    have f0 := hbn.cell 0 (.string nm.id) rfl
    clear hb hT
    go_wp2_with fail
    clear t0 t1 t2 t3 t4 t5 t6 f0
    generalize r1.alloc (Obj.cells #[.string { data := #[] }, .string { data := #[] }, .string { data := #[] }] 37) = r2 at *
    refine (memb_any (.int .u64 x0) (.int .u64 x1) (.int .u64 x2) (.slice v4 n4 c4) (some ⟨g, 0, none⟩) v2 v3 (n1 + 1) n2 n3 c c2 c3 (ins m1 nm k) m2 m3 nm.id r2 (by omega) (by omega) (by omega) hS1.out hS2.out hS3.out km k2 k3).mono ?_
    rintro e r3 hpost
    obtain ⟨he, hb⟩ := memb_ret hpost (x := nm) (b := true) (by rw [look_ins_same m1 nm k n1 HK.out HN1.out]; rfl)
    clear hpost
    subst he
    replace hb := below_step hb (below_alloc r3 (Obj.cells #[.string nm.id, .string nm.peer, .string nm.client] 37))
    replace hA := below_step hA hb
    replace hbn := hbn.grow hb
    replace hbb := hbb.grow hb
    replace hba := hba.grow hb
    replace hbw := hbw.grow hb
    replace km := km.grow hb (Nat.le_refl _)
    replace k1 := k1.grow hb (Nat.le_refl _)
    replace k2 := k2.grow hb (Nat.le_refl _)
    replace k3 := k3.grow hb (Nat.le_refl _)
    have hM := hbw
    have e0 := hM.cell 0 _ rfl
    have e1 := hM.cell 1 _ rfl
    have e2 := hM.cell 2 _ rfl
    have hT := hbb
    have t0 := hT.cell 0 _ rfl
    have t1 := hT.cell 1 _ rfl
    have t2 := hT.cell 2 _ rfl
    have t3 := hT.cell 3 _ rfl
    have t4 := hT.cell 4 _ rfl
    have t5 := hT.cell 5 _ rfl
    have t6 := hT.cell 6 _ rfl
    have f0 := hbn.cell 0 (.string nm.id) rfl
    have hnn := hne nm
    clear hb hT hM
    cases hq : (id.toList == nm.id.toList)
    case true =>
      go_wp2_with fail
      go_ret
      exact ⟨rfl, hA⟩
    have HQ : Hid (eqS nm.id id = false) := eqS_swap hq
    go_wp2_with fail
    clear t0 t1 t2 t3 t4 t5 t6 f0 e0 e1 e2 hnn hbn hbw
    generalize r3.alloc (Obj.cells #[.string nm.id, .string nm.peer, .string nm.client] 37) = r4 at *
    rcases hr : find3 (look m1 id n1) (look m2 id n2) (look m3 id n3) with ⟨r, ok⟩
    have hr2 : find3 (look (ins m1 nm k) id (n1 + 1)) (look m2 id n2) (look m3 id n3) = (r, ok) := by rw [look_ins_other m1 nm k id HQ.out n1 HK.out]; exact hr
    refine (memb_any (.int .u64 x0) (.int .u64 x1) (.int .u64 x2) (.slice v4 n4 c4) v1 v2 v3 n1 n2 n3 c1 c2 c3 m1 m2 m3 id r4 (by omega) (by omega) (by omega) HS1.out HS2.out HS3.out k1 k2 k3).mono ?_
    rintro e r5 hpost
    obtain ⟨he, hb⟩ := memb_ret hpost hr
    clear hpost hr
    subst he
    replace hb := below_step hb (below_alloc r5 (Obj.cells #[.string r.id, .string r.peer, .string r.client] 37))
    replace hA := below_step hA hb
    replace hba := hba.grow hb
    replace km := km.grow hb (Nat.le_refl _)
    replace k1 := k1.grow hb (Nat.le_refl _)
    replace k2 := k2.grow hb (Nat.le_refl _)
    replace k3 := k3.grow hb (Nat.le_refl _)
    have hbr := box_new r5 #[.string r.id, .string r.peer, .string r.client] 37
    have hT := hba
    have t0 := hT.cell 0 _ rfl
    have t1 := hT.cell 1 _ rfl
    have t2 := hT.cell 2 _ rfl
    have t3 := hT.cell 3 _ rfl
    have t4 := hT.cell 4 _ rfl
    have t5 := hT.cell 5 _ rfl
    have t6 := hT.cell 6 _ rfl
    clear hb hT
    go_wp2_with fail
    clear t0 t1 t2 t3 t4 t5 t6 hba
    generalize r5.alloc (Obj.cells #[.string r.id, .string r.peer, .string r.client] 37) = r6 at *
    generalize hRe : r5.heap.size = R at hbr ⊢
    clear hRe
    refine (memb_any (.int .u64 x0) (.int .u64 x1) (.int .u64 x2) (.slice v4 n4 c4) (some ⟨g, 0, none⟩) v2 v3 (n1 + 1) n2 n3 c c2 c3 (ins m1 nm k) m2 m3 id r6 (by omega) (by omega) (by omega) hS1.out hS2.out hS3.out km k2 k3).mono ?_
    rintro e r7 hpost
    obtain ⟨he, hb⟩ := memb_ret hpost hr2
    clear hpost hr2
    subst he
    replace hb := below_step hb (below_alloc r7 (Obj.cells #[.string r.id, .string r.peer, .string r.client] 37))
    replace hA := below_step hA hb
    replace hbr := hbr.grow hb
    have hM := hbr
    have e0 := hM.cell 0 _ rfl
    have e1 := hM.cell 1 _ rfl
    have e2 := hM.cell 2 _ rfl
    have hnn := hne r
    clear hb hM
    cases ok
    all_goals
      go_wp2_with fail
      go_ret
      exact ⟨rfl, hA⟩
  by_cases hx1 : x3 = 1
  · subst x3
    go_wp2_with fail
    clear e0 e1 e2
    have hsz : (q4.alloc (Obj.cells #[.int .u64 x0, .int .u64 x1, .int .u64 x2, .slice v1 n1 c1, .slice v2 n2 c2, .slice v3 n3 c3, .slice v4 n4 c4] 35)).heap.size = q4.heap.size + 1 := by simp
    rw [hsz] at hba
    obtain ⟨A, hAe⟩ : ∃ A, A = q4.heap.size + 1 := ⟨_, rfl⟩
    rw [← hAe] at hba ⊢
    have hAB : q4.heap.size ≠ A := by omega
    have hAN : N ≠ A := by omega
    have hAge : q4.heap.size ≤ A := by omega
    have hw4 : w.heap.size ≤ A := by omega
    clear hAe hsz
    generalize (q4.alloc (Obj.cells #[.int .u64 x0, .int .u64 x1, .int .u64 x2, .slice v1 n1 c1, .slice v2 n2 c2, .slice v3 n3 c3, .slice v4 n4 c4] 35)).alloc (Obj.cells #[.int .u64 x0, .int .u64 x1, .int .u64 x2, .slice v1 n1 c1, .slice v2 n2 c2, .slice v3 n3 c3, .slice v4 n4 c4] 35) = q5 at *
    have hAlt := heap_lt hba.at_
    refine (insert_any a2 n2 d2 m2 nm q5 b2 h2).mono ?_
    rintro e q6 ⟨⟨g, c, k, rfl, hgA, km, hk, hlo, hhi⟩, hb⟩
    have hgne : g ≠ A := by omega
    replace hA := below_step hA hb
    replace hbn := hbn.grow hb
    replace hbb := hbb.grow hb
    replace hba := hba.grow hb
    replace hC := hC.trans (hb.mono hC.size)
    clear hb h1 h2 h3 h4 hgA hAlt
    have u0 := hba.cell 4 _ rfl
    have u1 : q6.frozen? ⟨A, 4, none⟩ = false := frozen_of_row _ _ _ _ _ hba.at_
    have hS1 : Hid (Sorted m1 n1) := HS1
    have hS2 : Hid (Sorted (ins m2 nm k) (n2 + 1)) := sorted_ins HS2.out hk hlo hhi
    have hS3 : Hid (Sorted m3 n3) := HS3
    have HK : Hid (k ≤ n2) := hk
    clear hlo hhi hk
    replace hba : Box (q6.setCell ⟨A, 4, none⟩ (.slice (some ⟨g, 0, none⟩) (n2 + 1) c)) A #[.int .u64 x0, .int .u64 x1, .int .u64 x2, .slice v1 n1 c1, .slice (some ⟨g, 0, none⟩) (n2 + 1) c, .slice v3 n3 c3, .slice v4 n4 c4] 35 := hba.put 4 (.slice (some ⟨g, 0, none⟩) (n2 + 1) c)
    replace hbn := hbn.set hAN 4 (.slice (some ⟨g, 0, none⟩) (n2 + 1) c)
    replace hbb := hbb.set hAB 4 (.slice (some ⟨g, 0, none⟩) (n2 + 1) c)
    replace hA := hA.setCell (p := ⟨A, 4, none⟩) hw4 (.slice (some ⟨g, 0, none⟩) (n2 + 1) c)
    replace hC := hC.setCell (p := ⟨A, 4, none⟩) hAge (.slice (some ⟨g, 0, none⟩) (n2 + 1) c)
    replace km := km.set hgne 4 (.slice (some ⟨g, 0, none⟩) (n2 + 1) c)
    have hsz : (q6.setCell ⟨A, 4, none⟩ (.slice (some ⟨g, 0, none⟩) (n2 + 1) c)).heap.size = q6.heap.size := by simp [World.setCell]
    have e0 := hbn.cell 0 (.string nm.id) rfl
    have e1 := hbn.cell 1 (.string nm.peer) rfl
    have e2 := hbn.cell 2 (.string nm.client) rfl
    have hb := below_alloc (q6.setCell ⟨A, 4, none⟩ (.slice (some ⟨g, 0, none⟩) (n2 + 1) c)) (Obj.cells #[.string nm.id, .string nm.peer, .string nm.client] 37)
    have hbw := box_new (q6.setCell ⟨A, 4, none⟩ (.slice (some ⟨g, 0, none⟩) (n2 + 1) c)) #[.string nm.id, .string nm.peer, .string nm.client] 37
    rw [hsz] at hbw
    replace hA := below_step hA hb
    replace hbn := hbn.grow hb
    replace hbb := hbb.grow hb
    replace hba := hba.grow hb
    replace km := km.grow hb (Nat.le_refl _)
    replace hC := hC.trans (hb.mono hC.size)
    have hT := hbb
    have t0 := hT.cell 0 _ rfl
    have t1 := hT.cell 1 _ rfl
    have t2 := hT.cell 2 _ rfl
    have t3 := hT.cell 3 _ rfl
    have t4 := hT.cell 4 _ rfl
    have t5 := hT.cell 5 _ rfl
    have t6 := hT.cell 6 _ rfl
    have f0 := hbn.cell 0 (.string nm.id) rfl
    clear hb hsz hT
    go_wp2_with fail
    clear e0 e1 e2 t0 t1 t2 t3 t4 t5 t6 f0 u0 u1
    generalize (q6.setCell ⟨A, 4, none⟩ (.slice (some ⟨g, 0, none⟩) (n2 + 1) c)).alloc (Obj.cells #[.string nm.id, .string nm.peer, .string nm.client] 37) = r0 at *
    generalize hWt : q6.heap.size = Wt at hbw ⊢
    clear hWt
    replace k1 := k1.grow hC (Nat.le_refl _)
    replace k2 := k2.grow hC (Nat.le_refl _)
    replace k3 := k3.grow hC (Nat.le_refl _)
    generalize hBe : q4.heap.size = B at hbb ⊢
    clear hBe hC hAB hAN hAge hw4 hgne hNq hwq
    refine (memb_any (.int .u64 x0) (.int .u64 x1) (.int .u64 x2) (.slice v4 n4 c4) v1 v2 v3 n1 n2 n3 c1 c2 c3 m1 m2 m3 nm.id r0 (by omega) (by omega) (by omega) HS1.out HS2.out HS3.out k1 k2 k3).mono ?_
    rintro e r1 hpost
    obtain ⟨he, hb⟩ := memb_ret hpost (x := zero3) (b := false) (by rw [HN1.out, HN2.out, HN3.out]; rfl)
    clear hpost
    replace he : e = .returned (.tuple #[.agg #[.string { data := #[] }, .string { data := #[] }, .string { data := #[] }], .bool false]) := he
    subst he
    replace hb := below_step hb (below_alloc r1 (Obj.cells #[.string { data := #[] }, .string { data := #[] }, .string { data := #[] }] 37))
    replace hA := below_step hA hb
    replace hbn := hbn.grow hb
    replace hbb := hbb.grow hb
    replace hba := hba.grow hb
    replace hbw := hbw.grow hb
    replace km := km.grow hb (Nat.le_refl _)
    replace k1 := k1.grow hb (Nat.le_refl _)
    replace k2 := k2.grow hb (Nat.le_refl _)
    replace k3 := k3.grow hb (Nat.le_refl _)
    have hT := hba
    have t0 := hT.cell 0 _ rfl
    have t1 := hT.cell 1 _ rfl
    have t2 := hT.cell 2 _ rfl
    have t3 := hT.cell 3 _ rfl
    have t4 := hT.cell 4 _ rfl
    have t5 := hT.cell 5 _ rfl
    have t6 := hT.cell 6 _ rfl
    have f0 := hbn.cell 0 (.string nm.id) rfl
    clear hb hT
    go_wp2_with fail
    clear t0 t1 t2 t3 t4 t5 t6 f0
    generalize r1.alloc (Obj.cells #[.string { data := #[] }, .string { data := #[] }, .string { data := #[] }] 37) = r2 at *
    refine (memb_any (.int .u64 x0) (.int .u64 x1) (.int .u64 x2) (.slice v4 n4 c4) v1 (some ⟨g, 0, none⟩) v3 n1 (n2 + 1) n3 c1 c c3 m1 (ins m2 nm k) m3 nm.id r2 (by omega) (by omega) (by omega) hS1.out hS2.out hS3.out k1 km k3).mono ?_
    rintro e r3 hpost
    obtain ⟨he, hb⟩ := memb_ret hpost (x := nm) (b := true) (by rw [HN1.out, look_ins_same m2 nm k n2 HK.out HN2.out]; rfl)
    clear hpost
    subst he
    replace hb := below_step hb (below_alloc r3 (Obj.cells #[.string nm.id, .string nm.peer, .string nm.client] 37))
    replace hA := below_step hA hb
    replace hbn := hbn.grow hb
    replace hbb := hbb.grow hb
    replace hba := hba.grow hb
    replace hbw := hbw.grow hb
    replace km := km.grow hb (Nat.le_refl _)
    replace k1 := k1.grow hb (Nat.le_refl _)
    replace k2 := k2.grow hb (Nat.le_refl _)
    replace k3 := k3.grow hb (Nat.le_refl _)
    have hM := hbw
    have e0 := hM.cell 0 _ rfl
    have e1 := hM.cell 1 _ rfl
    have e2 := hM.cell 2 _ rfl
    have hT := hbb
    have t0 := hT.cell 0 _ rfl
    have t1 := hT.cell 1 _ rfl
    have t2 := hT.cell 2 _ rfl
    have t3 := hT.cell 3 _ rfl
    have t4 := hT.cell 4 _ rfl
    have t5 := hT.cell 5 _ rfl
    have t6 := hT.cell 6 _ rfl
    have f0 := hbn.cell 0 (.string nm.id) rfl
    have hnn := hne nm
    clear hb hT hM
    cases hq : (id.toList == nm.id.toList)
    case true =>
      go_wp2_with fail
      go_ret
      exact ⟨rfl, hA⟩
    have HQ : Hid (eqS nm.id id = false) := eqS_swap hq
    go_wp2_with fail
    clear t0 t1 t2 t3 t4 t5 t6 f0 e0 e1 e2 hnn hbn hbw
    generalize r3.alloc (Obj.cells #[.string nm.id, .string nm.peer, .string nm.client] 37) = r4 at *
    rcases hr : find3 (look m1 id n1) (look m2 id n2) (look m3 id n3) with ⟨r, ok⟩
    have hr2 : find3 (look m1 id n1) (look (ins m2 nm k) id (n2 + 1)) (look m3 id n3) = (r, ok) := by rw [look_ins_other m2 nm k id HQ.out n2 HK.out]; exact hr
    refine (memb_any (.int .u64 x0) (.int .u64 x1) (.int .u64 x2) (.slice v4 n4 c4) v1 v2 v3 n1 n2 n3 c1 c2 c3 m1 m2 m3 id r4 (by omega) (by omega) (by omega) HS1.out HS2.out HS3.out k1 k2 k3).mono ?_
    rintro e r5 hpost
    obtain ⟨he, hb⟩ := memb_ret hpost hr
    clear hpost hr
    subst he
    replace hb := below_step hb (below_alloc r5 (Obj.cells #[.string r.id, .string r.peer, .string r.client] 37))
    replace hA := below_step hA hb
    replace hba := hba.grow hb
    replace km := km.grow hb (Nat.le_refl _)
    replace k1 := k1.grow hb (Nat.le_refl _)
    replace k2 := k2.grow hb (Nat.le_refl _)
    replace k3 := k3.grow hb (Nat.le_refl _)
    have hbr := box_new r5 #[.string r.id, .string r.peer, .string r.client] 37
    have hT := hba
    have t0 := hT.cell 0 _ rfl
    have t1 := hT.cell 1 _ rfl
    have t2 := hT.cell 2 _ rfl
    have t3 := hT.cell 3 _ rfl
    have t4 := hT.cell 4 _ rfl
    have t5 := hT.cell 5 _ rfl
    have t6 := hT.cell 6 _ rfl
    clear hb hT
    go_wp2_with fail
    clear t0 t1 t2 t3 t4 t5 t6 hba
    generalize r5.alloc (Obj.cells #[.string r.id, .string r.peer, .string r.client] 37) = r6 at *
    generalize hRe : r5.heap.size = R at hbr ⊢
    clear hRe
    refine (memb_any (.int .u64 x0) (.int .u64 x1) (.int .u64 x2) (.slice v4 n4 c4) v1 (some ⟨g, 0, none⟩) v3 n1 (n2 + 1) n3 c1 c c3 m1 (ins m2 nm k) m3 id r6 (by omega) (by omega) (by omega) hS1.out hS2.out hS3.out k1 km k3).mono ?_
    rintro e r7 hpost
    obtain ⟨he, hb⟩ := memb_ret hpost hr2
    clear hpost hr2
    subst he
    replace hb := below_step hb (below_alloc r7 (Obj.cells #[.string r.id, .string r.peer, .string r.client] 37))
    replace hA := below_step hA hb
    replace hbr := hbr.grow hb
    have hM := hbr
    have e0 := hM.cell 0 _ rfl
    have e1 := hM.cell 1 _ rfl
    have e2 := hM.cell 2 _ rfl
    have hnn := hne r
    clear hb hM
    cases ok
    all_goals
      go_wp2_with fail
      go_ret
      exact ⟨rfl, hA⟩
  go_wp2_with fail
  clear e0 e1 e2
  have hsz : (q4.alloc (Obj.cells #[.int .u64 x0, .int .u64 x1, .int .u64 x2, .slice v1 n1 c1, .slice v2 n2 c2, .slice v3 n3 c3, .slice v4 n4 c4] 35)).heap.size = q4.heap.size + 1 := by simp
  rw [hsz] at hba
  obtain ⟨A, hAe⟩ : ∃ A, A = q4.heap.size + 1 := ⟨_, rfl⟩
  rw [← hAe] at hba ⊢
  have hAB : q4.heap.size ≠ A := by omega
  have hAN : N ≠ A := by omega
  have hAge : q4.heap.size ≤ A := by omega
  have hw4 : w.heap.size ≤ A := by omega
  clear hAe hsz
  generalize (q4.alloc (Obj.cells #[.int .u64 x0, .int .u64 x1, .int .u64 x2, .slice v1 n1 c1, .slice v2 n2 c2, .slice v3 n3 c3, .slice v4 n4 c4] 35)).alloc (Obj.cells #[.int .u64 x0, .int .u64 x1, .int .u64 x2, .slice v1 n1 c1, .slice v2 n2 c2, .slice v3 n3 c3, .slice v4 n4 c4] 35) = q5 at *
  have hAlt := heap_lt hba.at_
  refine (insert_any a3 n3 d3 m3 nm q5 b3 h3).mono ?_
  rintro e q6 ⟨⟨g, c, k, rfl, hgA, km, hk, hlo, hhi⟩, hb⟩
  have hgne : g ≠ A := by omega
  replace hA := below_step hA hb
  replace hbn := hbn.grow hb
  replace hbb := hbb.grow hb
  replace hba := hba.grow hb
  replace hC := hC.trans (hb.mono hC.size)
  clear hb h1 h2 h3 h4 hgA hAlt
  have u0 := hba.cell 5 _ rfl
  have u1 : q6.frozen? ⟨A, 5, none⟩ = false := frozen_of_row _ _ _ _ _ hba.at_
  have hS1 : Hid (Sorted m1 n1) := HS1
  have hS2 : Hid (Sorted m2 n2) := HS2
  have hS3 : Hid (Sorted (ins m3 nm k) (n3 + 1)) := sorted_ins HS3.out hk hlo hhi
  have HK : Hid (k ≤ n3) := hk
  clear hlo hhi hk
  replace hba : Box (q6.setCell ⟨A, 5, none⟩ (.slice (some ⟨g, 0, none⟩) (n3 + 1) c)) A #[.int .u64 x0, .int .u64 x1, .int .u64 x2, .slice v1 n1 c1, .slice v2 n2 c2, .slice (some ⟨g, 0, none⟩) (n3 + 1) c, .slice v4 n4 c4] 35 := hba.put 5 (.slice (some ⟨g, 0, none⟩) (n3 + 1) c)
  replace hbn := hbn.set hAN 5 (.slice (some ⟨g, 0, none⟩) (n3 + 1) c)
  replace hbb := hbb.set hAB 5 (.slice (some ⟨g, 0, none⟩) (n3 + 1) c)
  replace hA := hA.setCell (p := ⟨A, 5, none⟩) hw4 (.slice (some ⟨g, 0, none⟩) (n3 + 1) c)
  replace hC := hC.setCell (p := ⟨A, 5, none⟩) hAge (.slice (some ⟨g, 0, none⟩) (n3 + 1) c)
  replace km := km.set hgne 5 (.slice (some ⟨g, 0, none⟩) (n3 + 1) c)
  have hsz : (q6.setCell ⟨A, 5, none⟩ (.slice (some ⟨g, 0, none⟩) (n3 + 1) c)).heap.size = q6.heap.size := by simp [World.setCell]
  have e0 := hbn.cell 0 (.string nm.id) rfl
  have e1 := hbn.cell 1 (.string nm.peer) rfl
  have e2 := hbn.cell 2 (.string nm.client) rfl
  have hb := below_alloc (q6.setCell ⟨A, 5, none⟩ (.slice (some ⟨g, 0, none⟩) (n3 + 1) c)) (Obj.cells #[.string nm.id, .string nm.peer, .string nm.client] 37)
  have hbw := box_new (q6.setCell ⟨A, 5, none⟩ (.slice (some ⟨g, 0, none⟩) (n3 + 1) c)) #[.string nm.id, .string nm.peer, .string nm.client] 37
  rw [hsz] at hbw
  replace hA := below_step hA hb
  replace hbn := hbn.grow hb
  replace hbb := hbb.grow hb
  replace hba := hba.grow hb
  replace km := km.grow hb (Nat.le_refl _)
  replace hC := hC.trans (hb.mono hC.size)
  have hT := hbb
  have t0 := hT.cell 0 _ rfl
  have t1 := hT.cell 1 _ rfl
  have t2 := hT.cell 2 _ rfl
  have t3 := hT.cell 3 _ rfl
  have t4 := hT.cell 4 _ rfl
  have t5 := hT.cell 5 _ rfl
  have t6 := hT.cell 6 _ rfl
  have f0 := hbn.cell 0 (.string nm.id) rfl
  clear hb hsz hT
  go_wp2_with fail
  clear e0 e1 e2 t0 t1 t2 t3 t4 t5 t6 f0 u0 u1
  generalize (q6.setCell ⟨A, 5, none⟩ (.slice (some ⟨g, 0, none⟩) (n3 + 1) c)).alloc (Obj.cells #[.string nm.id, .string nm.peer, .string nm.client] 37) = r0 at *
  generalize hWt : q6.heap.size = Wt at hbw ⊢
  clear hWt
  replace k1 := k1.grow hC (Nat.le_refl _)
  replace k2 := k2.grow hC (Nat.le_refl _)
  replace k3 := k3.grow hC (Nat.le_refl _)
  generalize hBe : q4.heap.size = B at hbb ⊢
  clear hBe hC hAB hAN hAge hw4 hgne hNq hwq
  refine (memb_any (.int .u64 x0) (.int .u64 x1) (.int .u64 x2) (.slice v4 n4 c4) v1 v2 v3 n1 n2 n3 c1 c2 c3 m1 m2 m3 nm.id r0 (by omega) (by omega) (by omega) HS1.out HS2.out HS3.out k1 k2 k3).mono ?_
  rintro e r1 hpost
  obtain ⟨he, hb⟩ := memb_ret hpost (x := zero3) (b := false) (by rw [HN1.out, HN2.out, HN3.out]; rfl)
  clear hpost
  replace he : e = .returned (.tuple #[.agg #[.string { data := #[] }, .string { data := #[] }, .string { data := #[] }], .bool false]) := he
  subst he
  replace hb := below_step hb (below_alloc r1 (Obj.cells #[.string { data := #[] }, .string { data := #[] }, .string { data := #[] }] 37))
  replace hA := below_step hA hb
  replace hbn := hbn.grow hb
  replace hbb := hbb.grow hb
  replace hba := hba.grow hb
  replace hbw := hbw.grow hb
  replace km := km.grow hb (Nat.le_refl _)
  replace k1 := k1.grow hb (Nat.le_refl _)
  replace k2 := k2.grow hb (Nat.le_refl _)
  replace k3 := k3.grow hb (Nat.le_refl _)
  have hT := hba
  have t0 := hT.cell 0 _ rfl
  have t1 := hT.cell 1 _ rfl
  have t2 := hT.cell 2 _ rfl
  have t3 := hT.cell 3 _ rfl
  have t4 := hT.cell 4 _ rfl
  have t5 := hT.cell 5 _ rfl
  have t6 := hT.cell 6 _ rfl
  have f0 := hbn.cell 0 (.string nm.id) rfl
  clear hb hT
  go_wp2_with fail
  clear t0 t1 t2 t3 t4 t5 t6 f0
  generalize r1.alloc (Obj.cells #[.string { data := #[] }, .string { data := #[] }, .string { data := #[] }] 37) = r2 at *
  refine (memb_any (.int .u64 x0) (.int .u64 x1) (.int .u64 x2) (.slice v4 n4 c4) v1 v2 (some ⟨g, 0, none⟩) n1 n2 (n3 + 1) c1 c2 c m1 m2 (ins m3 nm k) nm.id r2 (by omega) (by omega) (by omega) hS1.out hS2.out hS3.out k1 k2 km).mono ?_
  rintro e r3 hpost
  obtain ⟨he, hb⟩ := memb_ret hpost (x := nm) (b := true) (by rw [HN1.out, HN2.out, look_ins_same m3 nm k n3 HK.out HN3.out]; rfl)
  clear hpost
  subst he
  replace hb := below_step hb (below_alloc r3 (Obj.cells #[.string nm.id, .string nm.peer, .string nm.client] 37))
  replace hA := below_step hA hb
  replace hbn := hbn.grow hb
  replace hbb := hbb.grow hb
  replace hba := hba.grow hb
  replace hbw := hbw.grow hb
  replace km := km.grow hb (Nat.le_refl _)
  replace k1 := k1.grow hb (Nat.le_refl _)
  replace k2 := k2.grow hb (Nat.le_refl _)
  replace k3 := k3.grow hb (Nat.le_refl _)
  have hM := hbw
  have e0 := hM.cell 0 _ rfl
  have e1 := hM.cell 1 _ rfl
  have e2 := hM.cell 2 _ rfl
  have hT := hbb
  have t0 := hT.cell 0 _ rfl
  have t1 := hT.cell 1 _ rfl
  have t2 := hT.cell 2 _ rfl
  have t3 := hT.cell 3 _ rfl
  have t4 := hT.cell 4 _ rfl
  have t5 := hT.cell 5 _ rfl
  have t6 := hT.cell 6 _ rfl
  have f0 := hbn.cell 0 (.string nm.id) rfl
  have hnn := hne nm
  clear hb hT hM
  cases hq : (id.toList == nm.id.toList)
  case true =>
    go_wp2_with fail
    go_ret
    exact ⟨rfl, hA⟩
  have HQ : Hid (eqS nm.id id = false) := eqS_swap hq
  go_wp2_with fail
  clear t0 t1 t2 t3 t4 t5 t6 f0 e0 e1 e2 hnn hbn hbw
  generalize r3.alloc (Obj.cells #[.string nm.id, .string nm.peer, .string nm.client] 37) = r4 at *
  rcases hr : find3 (look m1 id n1) (look m2 id n2) (look m3 id n3) with ⟨r, ok⟩
  have hr2 : find3 (look m1 id n1) (look m2 id n2) (look (ins m3 nm k) id (n3 + 1)) = (r, ok) := by rw [look_ins_other m3 nm k id HQ.out n3 HK.out]; exact hr
  refine (memb_any (.int .u64 x0) (.int .u64 x1) (.int .u64 x2) (.slice v4 n4 c4) v1 v2 v3 n1 n2 n3 c1 c2 c3 m1 m2 m3 id r4 (by omega) (by omega) (by omega) HS1.out HS2.out HS3.out k1 k2 k3).mono ?_
  rintro e r5 hpost
  obtain ⟨he, hb⟩ := memb_ret hpost hr
  clear hpost hr
  subst he
  replace hb := below_step hb (below_alloc r5 (Obj.cells #[.string r.id, .string r.peer, .string r.client] 37))
  replace hA := below_step hA hb
  replace hba := hba.grow hb
  replace km := km.grow hb (Nat.le_refl _)
  replace k1 := k1.grow hb (Nat.le_refl _)
  replace k2 := k2.grow hb (Nat.le_refl _)
  replace k3 := k3.grow hb (Nat.le_refl _)
  have hbr := box_new r5 #[.string r.id, .string r.peer, .string r.client] 37
  have hT := hba
  have t0 := hT.cell 0 _ rfl
  have t1 := hT.cell 1 _ rfl
  have t2 := hT.cell 2 _ rfl
  have t3 := hT.cell 3 _ rfl
  have t4 := hT.cell 4 _ rfl
  have t5 := hT.cell 5 _ rfl
  have t6 := hT.cell 6 _ rfl
  clear hb hT
  go_wp2_with fail
  clear t0 t1 t2 t3 t4 t5 t6 hba
  generalize r5.alloc (Obj.cells #[.string r.id, .string r.peer, .string r.client] 37) = r6 at *
  generalize hRe : r5.heap.size = R at hbr ⊢
  clear hRe
  refine (memb_any (.int .u64 x0) (.int .u64 x1) (.int .u64 x2) (.slice v4 n4 c4) v1 v2 (some ⟨g, 0, none⟩) n1 n2 (n3 + 1) c1 c2 c m1 m2 (ins m3 nm k) id r6 (by omega) (by omega) (by omega) hS1.out hS2.out hS3.out k1 k2 km).mono ?_
  rintro e r7 hpost
  obtain ⟨he, hb⟩ := memb_ret hpost hr2
  clear hpost hr2
  subst he
  replace hb := below_step hb (below_alloc r7 (Obj.cells #[.string r.id, .string r.peer, .string r.client] 37))
  replace hA := below_step hA hb
  replace hbr := hbr.grow hb
  have hM := hbr
  have e0 := hM.cell 0 _ rfl
  have e1 := hM.cell 1 _ rfl
  have e2 := hM.cell 2 _ rfl
  have hnn := hne r
  clear hb hM
  cases ok
  all_goals
    go_wp2_with fail
    go_ret
    exact ⟨rfl, hA⟩
end Go.Proofs.Qxb6630823a
