import Derived.Test.Qxb6630823aMemb
import Derived.Test.Qxb6630823aIn
import Derived.Test.Qxb6630823aByB
namespace Go.Proofs.Qxb6630823a
open Go.RowKit

structure LawPost (w : World) (e : Ending) (w' : World) : Prop where
  ret : e = .returned (.bool true)
  below : Below w.heap.size w w'

structure Box (W : World) (g : Nat) (vs : Array Value) (t : TypeId) : Prop where
  at_ : W.heap[g]? = some (.cells vs t (0, 0))
theorem box_new (y : World) (vs : Array Value) (t : TypeId) : Box (y.alloc (Obj.cells vs t)) y.heap.size vs t := ⟨Go.heap_alloc_new _ _⟩
theorem Box.grow {W W' : World} {g : Nat} {vs : Array Value} {t : TypeId} (h : Box W g vs t) (hb : Below W.heap.size W W') : Box W' g vs t := ⟨(hb.block _ (heap_lt h.at_)).trans h.at_⟩
theorem Box.cell {W : World} {g : Nat} {vs : Array Value} {t : TypeId} (h : Box W g vs t) (j : Nat) (v : Value) (hv : vs[j]? = some v) : W.cell? ⟨g, j, none⟩ = some v := by
  rw [cell_of_row _ _ _ _ _ _ h.at_]; exact hv
theorem below_step {w y z : World} (h : Below w.heap.size w y) (hb : Below y.heap.size y z) : Below w.heap.size w z := h.trans (hb.mono h.size)
theorem below_alloc (y : World) (o : Obj) : Below y.heap.size y (y.alloc o) := (Below.refl _ _).alloc (Nat.le_refl _) _
theorem memsAt_none (w : World) (a : Option Addr) (ms : Nat → M3) : MemsAt w a 0 ms := fun h => absurd h (by omega)
theorem sorted_none (ms : Nat → M3) : Sorted ms 0 := fun _ _ h => absurd h (by omega)
theorem memb_ret {r : M3 × Bool} {x : M3} {b : Bool} {w w' : World} {e : Ending} (h : MembPost r w e w') (hr : r = (x, b)) : e = .returned (.tuple #[.agg #[.string x.id, .string x.peer, .string x.client], .bool b]) ∧ Below w.heap.size w w' := by
  subst hr
  exact ⟨h.ret, h.below⟩

set_option maxRecDepth 100000 in
set_option maxHeartbeats 4000000 in
theorem law4_any (x0 x1 x2 : Int) (a1 a2 a3 a4 : Option Addr) (n1 n2 n3 n4 d1 d2 d3 d4 : Nat) (m1 m2 m3 m4 : Nat → M3) (id : ByteArray) (w : World)
    (b1 : n1 ≤ 9223372036854775807) (b2 : n2 ≤ 9223372036854775807) (b3 : n3 ≤ 9223372036854775807) (b4 : n4 ≤ 9223372036854775807)
    (l1 : a1 = none → n1 = 0 ∧ d1 = 0) (l2 : a2 = none → n2 = 0 ∧ d2 = 0) (l3 : a3 = none → n3 = 0 ∧ d3 = 0) (l4 : a4 = none → n4 = 0 ∧ d4 = 0)
    (h1 : MemsAt w a1 n1 m1) (h2 : MemsAt w a2 n2 m2) (h3 : MemsAt w a3 n3 m3) (h4 : MemsAt w a4 n4 m4) :
    Calls Try.prog 4 #[.int .u64 x0, .int .u64 x1, .int .u64 x2, .slice a1 n1 d1, .slice a2 n2 d2, .slice a3 n3 d3, .slice a4 n4 d4, .string id] w fun e w' => LawPost w e w' := by
  have L1 : Hid (a1 = none → n1 = 0 ∧ d1 = 0) := l1
  have L2 : Hid (a2 = none → n2 = 0 ∧ d2 = 0) := l2
  have L3 : Hid (a3 = none → n3 = 0 ∧ d3 = 0) := l3
  have L4 : Hid (a4 = none → n4 = 0 ∧ d4 = 0) := l4
  clear l1 l2 l3 l4
  go_enter Try.func4, Try.ntmps4
  go_wp2_with fail
  refine (bytes12_any _ _ _ a1 a2 a3 a4 n1 n2 n3 n4 d1 d2 d3 d4 m1 m2 m3 m4 id w h1 h2 h3 h4).mono ?_
  rintro e w1 ⟨⟨bl, rfl⟩, hw1⟩
  subst w1
  cases bl
  · go_wp2_with fail
    go_ret
    exact ⟨rfl, Below.refl _ _⟩
  go_wp2_with fail
  all_goals first
    | (go_ret; exact ⟨rfl, Below.refl _ _⟩)
    | skip
  have hh : ((((n1 : Int) ≤ 65536 ∧ (n2 : Int) ≤ 65536) ∧ (n3 : Int) ≤ 65536) ∧ (n4 : Int) ≤ 65536) := by assumption
  replace b1 : n1 ≤ 65536 := by omega
  replace b2 : n2 ≤ 65536 := by omega
  replace b3 : n3 ≤ 65536 := by omega
  replace b4 : n4 ≤ 65536 := by omega
  clear hh
  refine (size_any a1 n1 d1 m1 _ _ (by omega) h1).mono ?_
  rintro e x ⟨z1, p, rfl, rfl⟩
  go_wp2_with fail
  all_goals first
    | (go_ret; exact ⟨rfl, below_drew (Below.refl _ _) _⟩)
    | skip
  refine (size_any a2 n2 d2 m2 _ _ (by omega) (h2.drewN _)).mono ?_
  rintro e x ⟨z2, p, rfl, rfl⟩
  go_wp2_with fail
  all_goals first
    | (go_ret; exact ⟨rfl, below_drew (Below.refl _ _) _⟩)
    | skip
  refine (size_any a3 n3 d3 m3 _ _ (by omega) (h3.drewN _)).mono ?_
  rintro e x ⟨z3, p, rfl, rfl⟩
  go_wp2_with fail
  all_goals first
    | (go_ret; exact ⟨rfl, below_drew (Below.refl _ _) _⟩)
    | skip
  refine (size_any a4 n4 d4 m4 _ _ (by omega) (h4.drewN _)).mono ?_
  rintro e x ⟨z4, p, rfl, rfl⟩
  go_wp2_with fail
  all_goals first
    | (go_ret; exact ⟨rfl, below_drew (Below.refl _ _) _⟩)
    | skip
  refine (sorted_any a1 n1 d1 m1 _ (by omega) (h1.drewN _)).mono ?_
  rintro e x ⟨bl, p, rfl, rfl, hs1⟩
  cases bl
  · go_wp2_with fail
    (go_ret; exact ⟨rfl, below_drew (Below.refl _ _) _⟩)
  have HS1 : Hid (Sorted m1 n1) := hs1 rfl
  clear hs1
  go_wp2_with fail
  refine (sorted_any a2 n2 d2 m2 _ (by omega) (h2.drewN _)).mono ?_
  rintro e x ⟨bl, p, rfl, rfl, hs2⟩
  cases bl
  · go_wp2_with fail
    (go_ret; exact ⟨rfl, below_drew (Below.refl _ _) _⟩)
  have HS2 : Hid (Sorted m2 n2) := hs2 rfl
  clear hs2
  go_wp2_with fail
  refine (sorted_any a3 n3 d3 m3 _ (by omega) (h3.drewN _)).mono ?_
  rintro e x ⟨bl, p, rfl, rfl, hs3⟩
  cases bl
  · go_wp2_with fail
    (go_ret; exact ⟨rfl, below_drew (Below.refl _ _) _⟩)
  have HS3 : Hid (Sorted m3 n3) := hs3 rfl
  clear hs3
  go_wp2_with fail
  have hA : ∀ p, Below w.heap.size w (w.drewN p) := fun p => below_drew (Below.refl _ _) p
  refine (conv_any a1 n1 d1 m1 _ b1 L1.out (h1.drewN _)).mono ?_
  rintro e y1 ⟨⟨v1, c1, rfl, k1⟩, hb1⟩
  have hA1 := (hA _).trans (hb1.mono (hA _).size)
  clear hb1 hA
  go_wp2_with fail
  refine (conv_any a2 n2 d2 m2 y1 b2 L2.out (h2.grow hA1 (Nat.le_refl _))).mono ?_
  rintro e y2 ⟨⟨v2, c2, rfl, k2⟩, hb2⟩
  have hA2 := hA1.trans (hb2.mono hA1.size)
  replace k1 := k1.grow hb2 (Nat.le_refl _)
  clear hb2 hA1
  go_wp2_with fail
  refine (conv_any a3 n3 d3 m3 y2 b3 L3.out (h3.grow hA2 (Nat.le_refl _))).mono ?_
  rintro e y3 ⟨⟨v3, c3, rfl, k3⟩, hb3⟩
  have hA3 := hA2.trans (hb3.mono hA2.size)
  replace k1 := k1.grow hb3 (Nat.le_refl _)
  replace k2 := k2.grow hb3 (Nat.le_refl _)
  clear hb3 hA2
  go_wp2_with fail
  refine (conv_any a4 n4 d4 m4 y3 b4 L4.out (h4.grow hA3 (Nat.le_refl _))).mono ?_
  rintro e y4 ⟨⟨v4, c4, rfl, k4⟩, hb4⟩
  have hA4 := hA3.trans (hb4.mono hA3.size)
  replace k1 := k1.grow hb4 (Nat.le_refl _)
  replace k2 := k2.grow hb4 (Nat.le_refl _)
  replace k3 := k3.grow hb4 (Nat.le_refl _)
  clear hb4 hA3
  go_wp2_with fail
  have hz : ∀ w, (binOp .neq 37 (.agg #[.string { data := #[] }, .string { data := #[] }, .string { data := #[] }]) (.agg #[.string { data := #[] }, .string { data := #[] }, .string { data := #[] }])).run Try.prog w = .ok (.bool false) w := fun w => (neq37 w zero3 zero3).trans (by rw [eq3_refl]; rfl)
  have hg := guard37
  have s1 := HS1.out
  have s2 := HS2.out
  have s3 := HS3.out
  have hB : Below y4.heap.size y4 (y4.alloc (Obj.cells #[.int .u64 x0, .int .u64 x1, .int .u64 x2, .slice v1 n1 c1, .slice v2 n2 c2, .slice v3 n3 c3, .slice v4 n4 c4] 35)) := below_alloc _ _
  have hm := memb_any (.int .u64 x0) (.int .u64 x1) (.int .u64 x2) (.slice v4 n4 c4) v1 v2 v3 n1 n2 n3 c1 c2 c3 m1 m2 m3 id _ (by omega) (by omega) (by omega) s1 s2 s3 (k1.grow hB (Nat.le_refl _)) (k2.grow hB (Nat.le_refl _)) (k3.grow hB (Nat.le_refl _))
  have hA5 := below_step hA4 hB
  clear k1 k2 k3 k4 hA4 hB s1 s2 s3
  rcases hL1 : look m1 id n1 with _ | x
  · rcases hL2 : look m2 id n2 with _ | x
    · rcases hL3 : look m3 id n3 with _ | x
      · have hf : find3 (look m1 id n1) (look m2 id n2) (look m3 id n3) = (zero3, false) := by rw [hL1, hL2, hL3]; rfl
        have g1 : hasB m1 id n1 = false := by rw [hasB_look, hL1]; rfl
        have g2 : hasB m2 id n2 = false := by rw [hasB_look, hL2]; rfl
        have g3 : hasB m3 id n3 = false := by rw [hasB_look, hL3]; rfl
        have hf1 : find3 (look m1 id n1) (look m1 id 0) (look m1 id 0) = (zero3, false) := by rw [hL1]; rfl
        have hf2 : find3 (look m2 id n2) (look m3 id n3) (look m1 id 0) = (zero3, false) := by rw [hL2, hL3]; rfl
        clear hL1 hL2 hL3
        refine hm.mono ?_
        clear hm
        rintro e y5 hpost
        obtain ⟨he, hb⟩ := memb_ret hpost hf
        clear hf hpost
        replace he : e = .returned (.tuple #[.agg #[.string { data := #[] }, .string { data := #[] }, .string { data := #[] }], .bool false]) := he
        subst he
        have hA6 := below_step hA5 hb
        clear hA5 hb
        go_wp2_with fail
        have hbx := box_new y5 #[.string { data := #[] }, .string { data := #[] }, .string { data := #[] }] 37
        have hA7 := below_step hA6 (below_alloc y5 (Obj.cells #[.string { data := #[] }, .string { data := #[] }, .string { data := #[] }] 37))
        generalize y5.alloc (Obj.cells #[.string { data := #[] }, .string { data := #[] }, .string { data := #[] }] 37) = y6 at *
        generalize y5.heap.size = G at *
        clear hA6
        refine (has_any a1 n1 d1 m1 id _ (by omega) (h1.grow hA7 (Nat.le_refl _))).mono ?_
        rintro e y ⟨he, hy⟩
        rw [g1] at he
        subst he
        subst y
        go_wp2_with fail
        refine (has_any a2 n2 d2 m2 id _ (by omega) (h2.grow hA7 (Nat.le_refl _))).mono ?_
        rintro e y ⟨he, hy⟩
        rw [g2] at he
        subst he
        subst y
        go_wp2_with fail
        refine (has_any a3 n3 d3 m3 id _ (by omega) (h3.grow hA7 (Nat.le_refl _))).mono ?_
        rintro e y ⟨he, hy⟩
        rw [g3] at he
        subst he
        subst y
        have e0 := hbx.cell 0 (.string { data := #[] }) rfl
        have e1 := hbx.cell 1 (.string { data := #[] }) rfl
        have e2 := hbx.cell 2 (.string { data := #[] }) rfl
        go_wp2_with fail
        all_goals
          clear e0 e1 e2
          refine (conv_any a1 n1 d1 m1 _ b1 L1.out (h1.grow hA7 (Nat.le_refl _))).mono ?_
          rintro e p1 ⟨⟨v, c, rfl, k1⟩, hb⟩
          replace hA7 := below_step hA7 hb
          replace hbx := hbx.grow hb
          clear hb
          go_wp2_with fail
          have hbh := box_new p1 #[.int .u64 0, .int .u64 0, .int .u64 0, .slice v n1 c, .slice none 0 0, .slice none 0 0, .slice none 0 0] 35
          have hb := below_alloc p1 (Obj.cells #[.int .u64 0, .int .u64 0, .int .u64 0, .slice v n1 c, .slice none 0 0, .slice none 0 0, .slice none 0 0] 35)
          replace hA7 := below_step hA7 hb
          replace hbx := hbx.grow hb
          replace k1 := k1.grow hb (Nat.le_refl _)
          clear hb
          generalize p1.alloc (Obj.cells #[.int .u64 0, .int .u64 0, .int .u64 0, .slice v n1 c, .slice none 0 0, .slice none 0 0, .slice none 0 0] 35) = p2 at *
          generalize p1.heap.size = H at *
          refine (conv_any a2 n2 d2 m2 _ b2 L2.out (h2.grow hA7 (Nat.le_refl _))).mono ?_
          rintro e p3 ⟨⟨v', c', rfl, k2⟩, hb⟩
          replace hA7 := below_step hA7 hb
          replace hbx := hbx.grow hb
          replace hbh := hbh.grow hb
          replace k1 := k1.grow hb (Nat.le_refl _)
          clear hb
          go_wp2_with fail
          refine (conv_any a3 n3 d3 m3 _ b3 L3.out (h3.grow hA7 (Nat.le_refl _))).mono ?_
          rintro e p4 ⟨⟨v'', c'', rfl, k3⟩, hb⟩
          replace hA7 := below_step hA7 hb
          replace hbx := hbx.grow hb
          replace hbh := hbh.grow hb
          replace k1 := k1.grow hb (Nat.le_refl _)
          replace k2 := k2.grow hb (Nat.le_refl _)
          clear hb
          have hb := below_alloc p4 (Obj.cells #[.int .u64 0, .int .u64 0, .int .u64 0, .slice v' n2 c', .slice v'' n3 c'', .slice none 0 0, .slice none 0 0] 35)
          replace hA7 := below_step hA7 hb
          replace hbx := hbx.grow hb
          replace hbh := hbh.grow hb
          replace k1 := k1.grow hb (Nat.le_refl _)
          replace k2 := k2.grow hb (Nat.le_refl _)
          replace k3 := k3.grow hb (Nat.le_refl _)
          have hbr := box_new p4 #[.int .u64 0, .int .u64 0, .int .u64 0, .slice v' n2 c', .slice v'' n3 c'', .slice none 0 0, .slice none 0 0] 35
          have t0 := hbh.cell 0 _ rfl
          have t1 := hbh.cell 1 _ rfl
          have t2 := hbh.cell 2 _ rfl
          have t3 := hbh.cell 3 _ rfl
          have t4 := hbh.cell 4 _ rfl
          have t5 := hbh.cell 5 _ rfl
          have t6 := hbh.cell 6 _ rfl
          clear hb
          go_wp2_with fail
          clear t0 t1 t2 t3 t4 t5 t6 hbh
          generalize p4.alloc (Obj.cells #[.int .u64 0, .int .u64 0, .int .u64 0, .slice v' n2 c', .slice v'' n3 c'', .slice none 0 0, .slice none 0 0] 35) = p5 at *
          generalize p4.heap.size = R at *
          refine (memb_any (.int .u64 0) (.int .u64 0) (.int .u64 0) (.slice none 0 0) v none none n1 0 0 c 0 0 m1 m1 m1 id p5 (by omega) (by omega) (by omega) HS1.out (sorted_none _) (sorted_none _) k1 (memsAt_none _ _ _) (memsAt_none _ _ _)).mono ?_
          rintro e p6 hpost
          obtain ⟨he, hb⟩ := memb_ret hpost hf1
          clear hpost hf1
          replace he : e = .returned (.tuple #[.agg #[.string { data := #[] }, .string { data := #[] }, .string { data := #[] }], .bool false]) := he
          subst he
          replace hA7 := below_step (below_step hA7 hb) (below_alloc p6 (Obj.cells #[.string { data := #[] }, .string { data := #[] }, .string { data := #[] }] 37))
          replace hbx := (hbx.grow hb).grow (below_alloc p6 (Obj.cells #[.string { data := #[] }, .string { data := #[] }, .string { data := #[] }] 37))
          replace hbr := (hbr.grow hb).grow (below_alloc p6 (Obj.cells #[.string { data := #[] }, .string { data := #[] }, .string { data := #[] }] 37))
          replace k2 := (k2.grow hb (Nat.le_refl _)).grow (below_alloc p6 (Obj.cells #[.string { data := #[] }, .string { data := #[] }, .string { data := #[] }] 37)) (Nat.le_refl _)
          replace k3 := (k3.grow hb (Nat.le_refl _)).grow (below_alloc p6 (Obj.cells #[.string { data := #[] }, .string { data := #[] }, .string { data := #[] }] 37)) (Nat.le_refl _)
          have t0 := hbr.cell 0 _ rfl
          have t1 := hbr.cell 1 _ rfl
          have t2 := hbr.cell 2 _ rfl
          have t3 := hbr.cell 3 _ rfl
          have t4 := hbr.cell 4 _ rfl
          have t5 := hbr.cell 5 _ rfl
          have t6 := hbr.cell 6 _ rfl
          clear hb
          go_wp2_with fail
          clear t0 t1 t2 t3 t4 t5 t6 hbr
          generalize p6.alloc (Obj.cells #[.string { data := #[] }, .string { data := #[] }, .string { data := #[] }] 37) = p7 at *
          refine (memb_any (.int .u64 0) (.int .u64 0) (.int .u64 0) (.slice none 0 0) v' v'' none n2 n3 0 c' c'' 0 m2 m3 m1 id p7 (by omega) (by omega) (by omega) HS2.out HS3.out (sorted_none _) k2 k3 (memsAt_none _ _ _)).mono ?_
          rintro e p8 hpost
          obtain ⟨he, hb⟩ := memb_ret hpost hf2
          clear hpost hf2
          replace he : e = .returned (.tuple #[.agg #[.string { data := #[] }, .string { data := #[] }, .string { data := #[] }], .bool false]) := he
          subst he
          replace hA7 := below_step (below_step hA7 hb) (below_alloc p8 (Obj.cells #[.string { data := #[] }, .string { data := #[] }, .string { data := #[] }] 37))
          replace hbx := (hbx.grow hb).grow (below_alloc p8 (Obj.cells #[.string { data := #[] }, .string { data := #[] }, .string { data := #[] }] 37))
          have e0 := hbx.cell 0 (.string { data := #[] }) rfl
          have e1 := hbx.cell 1 (.string { data := #[] }) rfl
          have e2 := hbx.cell 2 (.string { data := #[] }) rfl
          go_wp2_with fail
          go_ret
          exact ⟨rfl, hA7⟩
      · have hf : find3 (look m1 id n1) (look m2 id n2) (look m3 id n3) = (x, true) := by rw [hL1, hL2, hL3]; rfl
        have g1 : hasB m1 id n1 = false := by rw [hasB_look, hL1]; rfl
        have g2 : hasB m2 id n2 = false := by rw [hasB_look, hL2]; rfl
        have g3 : hasB m3 id n3 = true := by rw [hasB_look, hL3]; rfl
        have hf1 : find3 (look m1 id n1) (look m1 id 0) (look m1 id 0) = (zero3, false) := by rw [hL1]; rfl
        have hf2 : find3 (look m2 id n2) (look m3 id n3) (look m1 id 0) = (x, true) := by rw [hL2, hL3]; rfl
        obtain ⟨hid, i, hi, hix⟩ := look_some m3 id n3 x hL3
        have hid' : (x.id.toList == id.toList) = true := hid
        have hin : inB m3 x n3 = true := by rw [← hix]; exact inB_at m3 n3 i hi
        have hne : ∀ w, (binOp .neq 37 (.agg #[.string x.id, .string x.peer, .string x.client]) (.agg #[.string x.id, .string x.peer, .string x.client])).run Try.prog w = .ok (.bool false) w := fun w => by rw [neq37, eq3_refl]; rfl
        clear hi hix hid
        clear hL1 hL2 hL3
        refine hm.mono ?_
        clear hm
        rintro e y5 hpost
        obtain ⟨he, hb⟩ := memb_ret hpost hf
        clear hf hpost
        subst he
        have hA6 := below_step hA5 hb
        clear hA5 hb
        go_wp2_with fail
        have hbx := box_new y5 #[.string x.id, .string x.peer, .string x.client] 37
        have hA7 := below_step hA6 (below_alloc y5 (Obj.cells #[.string x.id, .string x.peer, .string x.client] 37))
        generalize y5.alloc (Obj.cells #[.string x.id, .string x.peer, .string x.client] 37) = y6 at *
        generalize y5.heap.size = G at *
        clear hA6
        refine (has_any a1 n1 d1 m1 id _ (by omega) (h1.grow hA7 (Nat.le_refl _))).mono ?_
        rintro e y ⟨he, hy⟩
        rw [g1] at he
        subst he
        subst y
        go_wp2_with fail
        refine (has_any a2 n2 d2 m2 id _ (by omega) (h2.grow hA7 (Nat.le_refl _))).mono ?_
        rintro e y ⟨he, hy⟩
        rw [g2] at he
        subst he
        subst y
        go_wp2_with fail
        refine (has_any a3 n3 d3 m3 id _ (by omega) (h3.grow hA7 (Nat.le_refl _))).mono ?_
        rintro e y ⟨he, hy⟩
        rw [g3] at he
        subst he
        subst y
        have e0 := hbx.cell 0 (.string x.id) rfl
        have e1 := hbx.cell 1 (.string x.peer) rfl
        have e2 := hbx.cell 2 (.string x.client) rfl
        go_wp2_with fail
        refine (in_any a1 n1 d1 m1 x _ (by omega) (h1.grow hA7 (Nat.le_refl _))).mono ?_
        rintro e z ⟨he, hb⟩
        replace hA7 := below_step hA7 hb
        replace hbx := hbx.grow hb
        clear e0 e1 e2 hb
        have e0 := hbx.cell 0 (.string x.id) rfl
        have e1 := hbx.cell 1 (.string x.peer) rfl
        have e2 := hbx.cell 2 (.string x.client) rfl
        generalize inB m1 x n1 = bb at he
        subst he
        cases bb
        case' true => go_wp2_with fail
        case' false =>
          go_wp2_with fail
          refine (in_any a2 n2 d2 m2 x _ (by omega) (h2.grow hA7 (Nat.le_refl _))).mono ?_
          rintro e z ⟨he, hb⟩
          replace hA7 := below_step hA7 hb
          replace hbx := hbx.grow hb
          clear e0 e1 e2 hb
          have e0 := hbx.cell 0 (.string x.id) rfl
          have e1 := hbx.cell 1 (.string x.peer) rfl
          have e2 := hbx.cell 2 (.string x.client) rfl
          generalize inB m2 x n2 = bb at he
          subst he
          cases bb
          case' true => go_wp2_with fail
          case' false =>
            go_wp2_with fail
            refine (in_any a3 n3 d3 m3 x _ (by omega) (h3.grow hA7 (Nat.le_refl _))).mono ?_
            rintro e z ⟨he, hb⟩
            replace hA7 := below_step hA7 hb
            replace hbx := hbx.grow hb
            clear e0 e1 e2 hb
            have e0 := hbx.cell 0 (.string x.id) rfl
            have e1 := hbx.cell 1 (.string x.peer) rfl
            have e2 := hbx.cell 2 (.string x.client) rfl
            rw [hin] at he
            subst he
            go_wp2_with fail
        all_goals
          clear e0 e1 e2
          refine (conv_any a1 n1 d1 m1 _ b1 L1.out (h1.grow hA7 (Nat.le_refl _))).mono ?_
          rintro e p1 ⟨⟨v, c, rfl, k1⟩, hb⟩
          replace hA7 := below_step hA7 hb
          replace hbx := hbx.grow hb
          clear hb
          go_wp2_with fail
          have hbh := box_new p1 #[.int .u64 0, .int .u64 0, .int .u64 0, .slice v n1 c, .slice none 0 0, .slice none 0 0, .slice none 0 0] 35
          have hb := below_alloc p1 (Obj.cells #[.int .u64 0, .int .u64 0, .int .u64 0, .slice v n1 c, .slice none 0 0, .slice none 0 0, .slice none 0 0] 35)
          replace hA7 := below_step hA7 hb
          replace hbx := hbx.grow hb
          replace k1 := k1.grow hb (Nat.le_refl _)
          clear hb
          generalize p1.alloc (Obj.cells #[.int .u64 0, .int .u64 0, .int .u64 0, .slice v n1 c, .slice none 0 0, .slice none 0 0, .slice none 0 0] 35) = p2 at *
          generalize p1.heap.size = H at *
          refine (conv_any a2 n2 d2 m2 _ b2 L2.out (h2.grow hA7 (Nat.le_refl _))).mono ?_
          rintro e p3 ⟨⟨v', c', rfl, k2⟩, hb⟩
          replace hA7 := below_step hA7 hb
          replace hbx := hbx.grow hb
          replace hbh := hbh.grow hb
          replace k1 := k1.grow hb (Nat.le_refl _)
          clear hb
          go_wp2_with fail
          refine (conv_any a3 n3 d3 m3 _ b3 L3.out (h3.grow hA7 (Nat.le_refl _))).mono ?_
          rintro e p4 ⟨⟨v'', c'', rfl, k3⟩, hb⟩
          replace hA7 := below_step hA7 hb
          replace hbx := hbx.grow hb
          replace hbh := hbh.grow hb
          replace k1 := k1.grow hb (Nat.le_refl _)
          replace k2 := k2.grow hb (Nat.le_refl _)
          clear hb
          have hb := below_alloc p4 (Obj.cells #[.int .u64 0, .int .u64 0, .int .u64 0, .slice v' n2 c', .slice v'' n3 c'', .slice none 0 0, .slice none 0 0] 35)
          replace hA7 := below_step hA7 hb
          replace hbx := hbx.grow hb
          replace hbh := hbh.grow hb
          replace k1 := k1.grow hb (Nat.le_refl _)
          replace k2 := k2.grow hb (Nat.le_refl _)
          replace k3 := k3.grow hb (Nat.le_refl _)
          have hbr := box_new p4 #[.int .u64 0, .int .u64 0, .int .u64 0, .slice v' n2 c', .slice v'' n3 c'', .slice none 0 0, .slice none 0 0] 35
          have t0 := hbh.cell 0 _ rfl
          have t1 := hbh.cell 1 _ rfl
          have t2 := hbh.cell 2 _ rfl
          have t3 := hbh.cell 3 _ rfl
          have t4 := hbh.cell 4 _ rfl
          have t5 := hbh.cell 5 _ rfl
          have t6 := hbh.cell 6 _ rfl
          clear hb
          go_wp2_with fail
          clear t0 t1 t2 t3 t4 t5 t6 hbh
          generalize p4.alloc (Obj.cells #[.int .u64 0, .int .u64 0, .int .u64 0, .slice v' n2 c', .slice v'' n3 c'', .slice none 0 0, .slice none 0 0] 35) = p5 at *
          generalize p4.heap.size = R at *
          refine (memb_any (.int .u64 0) (.int .u64 0) (.int .u64 0) (.slice none 0 0) v none none n1 0 0 c 0 0 m1 m1 m1 id p5 (by omega) (by omega) (by omega) HS1.out (sorted_none _) (sorted_none _) k1 (memsAt_none _ _ _) (memsAt_none _ _ _)).mono ?_
          rintro e p6 hpost
          obtain ⟨he, hb⟩ := memb_ret hpost hf1
          clear hpost hf1
          replace he : e = .returned (.tuple #[.agg #[.string { data := #[] }, .string { data := #[] }, .string { data := #[] }], .bool false]) := he
          subst he
          replace hA7 := below_step (below_step hA7 hb) (below_alloc p6 (Obj.cells #[.string { data := #[] }, .string { data := #[] }, .string { data := #[] }] 37))
          replace hbx := (hbx.grow hb).grow (below_alloc p6 (Obj.cells #[.string { data := #[] }, .string { data := #[] }, .string { data := #[] }] 37))
          replace hbr := (hbr.grow hb).grow (below_alloc p6 (Obj.cells #[.string { data := #[] }, .string { data := #[] }, .string { data := #[] }] 37))
          replace k2 := (k2.grow hb (Nat.le_refl _)).grow (below_alloc p6 (Obj.cells #[.string { data := #[] }, .string { data := #[] }, .string { data := #[] }] 37)) (Nat.le_refl _)
          replace k3 := (k3.grow hb (Nat.le_refl _)).grow (below_alloc p6 (Obj.cells #[.string { data := #[] }, .string { data := #[] }, .string { data := #[] }] 37)) (Nat.le_refl _)
          have t0 := hbr.cell 0 _ rfl
          have t1 := hbr.cell 1 _ rfl
          have t2 := hbr.cell 2 _ rfl
          have t3 := hbr.cell 3 _ rfl
          have t4 := hbr.cell 4 _ rfl
          have t5 := hbr.cell 5 _ rfl
          have t6 := hbr.cell 6 _ rfl
          clear hb
          go_wp2_with fail
          clear t0 t1 t2 t3 t4 t5 t6 hbr
          generalize p6.alloc (Obj.cells #[.string { data := #[] }, .string { data := #[] }, .string { data := #[] }] 37) = p7 at *
          refine (memb_any (.int .u64 0) (.int .u64 0) (.int .u64 0) (.slice none 0 0) v' v'' none n2 n3 0 c' c'' 0 m2 m3 m1 id p7 (by omega) (by omega) (by omega) HS2.out HS3.out (sorted_none _) k2 k3 (memsAt_none _ _ _)).mono ?_
          rintro e p8 hpost
          obtain ⟨he, hb⟩ := memb_ret hpost hf2
          clear hpost hf2
          subst he
          replace hA7 := below_step (below_step hA7 hb) (below_alloc p8 (Obj.cells #[.string x.id, .string x.peer, .string x.client] 37))
          replace hbx := (hbx.grow hb).grow (below_alloc p8 (Obj.cells #[.string x.id, .string x.peer, .string x.client] 37))
          have e0 := hbx.cell 0 (.string x.id) rfl
          have e1 := hbx.cell 1 (.string x.peer) rfl
          have e2 := hbx.cell 2 (.string x.client) rfl
          go_wp2_with fail
          go_ret
          exact ⟨rfl, hA7⟩
    · have hf : find3 (look m1 id n1) (look m2 id n2) (look m3 id n3) = (x, true) := by rw [hL1, hL2]; rfl
      have g1 : hasB m1 id n1 = false := by rw [hasB_look, hL1]; rfl
      have g2 : hasB m2 id n2 = true := by rw [hasB_look, hL2]; rfl
      have hf1 : find3 (look m1 id n1) (look m1 id 0) (look m1 id 0) = (zero3, false) := by rw [hL1]; rfl
      have hf2 : find3 (look m2 id n2) (look m3 id n3) (look m1 id 0) = (x, true) := by rw [hL2]; rfl
      obtain ⟨hid, i, hi, hix⟩ := look_some m2 id n2 x hL2
      have hid' : (x.id.toList == id.toList) = true := hid
      have hin : inB m2 x n2 = true := by rw [← hix]; exact inB_at m2 n2 i hi
      have hne : ∀ w, (binOp .neq 37 (.agg #[.string x.id, .string x.peer, .string x.client]) (.agg #[.string x.id, .string x.peer, .string x.client])).run Try.prog w = .ok (.bool false) w := fun w => by rw [neq37, eq3_refl]; rfl
      clear hi hix hid
      clear hL1 hL2
      refine hm.mono ?_
      clear hm
      rintro e y5 hpost
      obtain ⟨he, hb⟩ := memb_ret hpost hf
      clear hf hpost
      subst he
      have hA6 := below_step hA5 hb
      clear hA5 hb
      go_wp2_with fail
      have hbx := box_new y5 #[.string x.id, .string x.peer, .string x.client] 37
      have hA7 := below_step hA6 (below_alloc y5 (Obj.cells #[.string x.id, .string x.peer, .string x.client] 37))
      generalize y5.alloc (Obj.cells #[.string x.id, .string x.peer, .string x.client] 37) = y6 at *
      generalize y5.heap.size = G at *
      clear hA6
      refine (has_any a1 n1 d1 m1 id _ (by omega) (h1.grow hA7 (Nat.le_refl _))).mono ?_
      rintro e y ⟨he, hy⟩
      rw [g1] at he
      subst he
      subst y
      go_wp2_with fail
      refine (has_any a2 n2 d2 m2 id _ (by omega) (h2.grow hA7 (Nat.le_refl _))).mono ?_
      rintro e y ⟨he, hy⟩
      rw [g2] at he
      subst he
      subst y
      have e0 := hbx.cell 0 (.string x.id) rfl
      have e1 := hbx.cell 1 (.string x.peer) rfl
      have e2 := hbx.cell 2 (.string x.client) rfl
      go_wp2_with fail
      refine (in_any a1 n1 d1 m1 x _ (by omega) (h1.grow hA7 (Nat.le_refl _))).mono ?_
      rintro e z ⟨he, hb⟩
      replace hA7 := below_step hA7 hb
      replace hbx := hbx.grow hb
      clear e0 e1 e2 hb
      have e0 := hbx.cell 0 (.string x.id) rfl
      have e1 := hbx.cell 1 (.string x.peer) rfl
      have e2 := hbx.cell 2 (.string x.client) rfl
      generalize inB m1 x n1 = bb at he
      subst he
      cases bb
      case' true => go_wp2_with fail
      case' false =>
        go_wp2_with fail
        refine (in_any a2 n2 d2 m2 x _ (by omega) (h2.grow hA7 (Nat.le_refl _))).mono ?_
        rintro e z ⟨he, hb⟩
        replace hA7 := below_step hA7 hb
        replace hbx := hbx.grow hb
        clear e0 e1 e2 hb
        have e0 := hbx.cell 0 (.string x.id) rfl
        have e1 := hbx.cell 1 (.string x.peer) rfl
        have e2 := hbx.cell 2 (.string x.client) rfl
        rw [hin] at he
        subst he
        go_wp2_with fail
      all_goals
        clear e0 e1 e2
        refine (conv_any a1 n1 d1 m1 _ b1 L1.out (h1.grow hA7 (Nat.le_refl _))).mono ?_
        rintro e p1 ⟨⟨v, c, rfl, k1⟩, hb⟩
        replace hA7 := below_step hA7 hb
        replace hbx := hbx.grow hb
        clear hb
        go_wp2_with fail
        have hbh := box_new p1 #[.int .u64 0, .int .u64 0, .int .u64 0, .slice v n1 c, .slice none 0 0, .slice none 0 0, .slice none 0 0] 35
        have hb := below_alloc p1 (Obj.cells #[.int .u64 0, .int .u64 0, .int .u64 0, .slice v n1 c, .slice none 0 0, .slice none 0 0, .slice none 0 0] 35)
        replace hA7 := below_step hA7 hb
        replace hbx := hbx.grow hb
        replace k1 := k1.grow hb (Nat.le_refl _)
        clear hb
        generalize p1.alloc (Obj.cells #[.int .u64 0, .int .u64 0, .int .u64 0, .slice v n1 c, .slice none 0 0, .slice none 0 0, .slice none 0 0] 35) = p2 at *
        generalize p1.heap.size = H at *
        refine (conv_any a2 n2 d2 m2 _ b2 L2.out (h2.grow hA7 (Nat.le_refl _))).mono ?_
        rintro e p3 ⟨⟨v', c', rfl, k2⟩, hb⟩
        replace hA7 := below_step hA7 hb
        replace hbx := hbx.grow hb
        replace hbh := hbh.grow hb
        replace k1 := k1.grow hb (Nat.le_refl _)
        clear hb
        go_wp2_with fail
        refine (conv_any a3 n3 d3 m3 _ b3 L3.out (h3.grow hA7 (Nat.le_refl _))).mono ?_
        rintro e p4 ⟨⟨v'', c'', rfl, k3⟩, hb⟩
        replace hA7 := below_step hA7 hb
        replace hbx := hbx.grow hb
        replace hbh := hbh.grow hb
        replace k1 := k1.grow hb (Nat.le_refl _)
        replace k2 := k2.grow hb (Nat.le_refl _)
        clear hb
        have hb := below_alloc p4 (Obj.cells #[.int .u64 0, .int .u64 0, .int .u64 0, .slice v' n2 c', .slice v'' n3 c'', .slice none 0 0, .slice none 0 0] 35)
        replace hA7 := below_step hA7 hb
        replace hbx := hbx.grow hb
        replace hbh := hbh.grow hb
        replace k1 := k1.grow hb (Nat.le_refl _)
        replace k2 := k2.grow hb (Nat.le_refl _)
        replace k3 := k3.grow hb (Nat.le_refl _)
        have hbr := box_new p4 #[.int .u64 0, .int .u64 0, .int .u64 0, .slice v' n2 c', .slice v'' n3 c'', .slice none 0 0, .slice none 0 0] 35
        have t0 := hbh.cell 0 _ rfl
        have t1 := hbh.cell 1 _ rfl
        have t2 := hbh.cell 2 _ rfl
        have t3 := hbh.cell 3 _ rfl
        have t4 := hbh.cell 4 _ rfl
        have t5 := hbh.cell 5 _ rfl
        have t6 := hbh.cell 6 _ rfl
        clear hb
        go_wp2_with fail
        clear t0 t1 t2 t3 t4 t5 t6 hbh
        generalize p4.alloc (Obj.cells #[.int .u64 0, .int .u64 0, .int .u64 0, .slice v' n2 c', .slice v'' n3 c'', .slice none 0 0, .slice none 0 0] 35) = p5 at *
        generalize p4.heap.size = R at *
        refine (memb_any (.int .u64 0) (.int .u64 0) (.int .u64 0) (.slice none 0 0) v none none n1 0 0 c 0 0 m1 m1 m1 id p5 (by omega) (by omega) (by omega) HS1.out (sorted_none _) (sorted_none _) k1 (memsAt_none _ _ _) (memsAt_none _ _ _)).mono ?_
        rintro e p6 hpost
        obtain ⟨he, hb⟩ := memb_ret hpost hf1
        clear hpost hf1
        replace he : e = .returned (.tuple #[.agg #[.string { data := #[] }, .string { data := #[] }, .string { data := #[] }], .bool false]) := he
        subst he
        replace hA7 := below_step (below_step hA7 hb) (below_alloc p6 (Obj.cells #[.string { data := #[] }, .string { data := #[] }, .string { data := #[] }] 37))
        replace hbx := (hbx.grow hb).grow (below_alloc p6 (Obj.cells #[.string { data := #[] }, .string { data := #[] }, .string { data := #[] }] 37))
        replace hbr := (hbr.grow hb).grow (below_alloc p6 (Obj.cells #[.string { data := #[] }, .string { data := #[] }, .string { data := #[] }] 37))
        replace k2 := (k2.grow hb (Nat.le_refl _)).grow (below_alloc p6 (Obj.cells #[.string { data := #[] }, .string { data := #[] }, .string { data := #[] }] 37)) (Nat.le_refl _)
        replace k3 := (k3.grow hb (Nat.le_refl _)).grow (below_alloc p6 (Obj.cells #[.string { data := #[] }, .string { data := #[] }, .string { data := #[] }] 37)) (Nat.le_refl _)
        have t0 := hbr.cell 0 _ rfl
        have t1 := hbr.cell 1 _ rfl
        have t2 := hbr.cell 2 _ rfl
        have t3 := hbr.cell 3 _ rfl
        have t4 := hbr.cell 4 _ rfl
        have t5 := hbr.cell 5 _ rfl
        have t6 := hbr.cell 6 _ rfl
        clear hb
        go_wp2_with fail
        clear t0 t1 t2 t3 t4 t5 t6 hbr
        generalize p6.alloc (Obj.cells #[.string { data := #[] }, .string { data := #[] }, .string { data := #[] }] 37) = p7 at *
        refine (memb_any (.int .u64 0) (.int .u64 0) (.int .u64 0) (.slice none 0 0) v' v'' none n2 n3 0 c' c'' 0 m2 m3 m1 id p7 (by omega) (by omega) (by omega) HS2.out HS3.out (sorted_none _) k2 k3 (memsAt_none _ _ _)).mono ?_
        rintro e p8 hpost
        obtain ⟨he, hb⟩ := memb_ret hpost hf2
        clear hpost hf2
        subst he
        replace hA7 := below_step (below_step hA7 hb) (below_alloc p8 (Obj.cells #[.string x.id, .string x.peer, .string x.client] 37))
        replace hbx := (hbx.grow hb).grow (below_alloc p8 (Obj.cells #[.string x.id, .string x.peer, .string x.client] 37))
        have e0 := hbx.cell 0 (.string x.id) rfl
        have e1 := hbx.cell 1 (.string x.peer) rfl
        have e2 := hbx.cell 2 (.string x.client) rfl
        go_wp2_with fail
        go_ret
        exact ⟨rfl, hA7⟩
  · have hf : find3 (look m1 id n1) (look m2 id n2) (look m3 id n3) = (x, true) := by rw [hL1]; rfl
    have g1 : hasB m1 id n1 = true := by rw [hasB_look, hL1]; rfl
    have hf1 : find3 (look m1 id n1) (look m1 id 0) (look m1 id 0) = (x, true) := by rw [hL1]; rfl
    obtain ⟨hid, i, hi, hix⟩ := look_some m1 id n1 x hL1
    have hid' : (x.id.toList == id.toList) = true := hid
    have hin : inB m1 x n1 = true := by rw [← hix]; exact inB_at m1 n1 i hi
    have hne : ∀ w, (binOp .neq 37 (.agg #[.string x.id, .string x.peer, .string x.client]) (.agg #[.string x.id, .string x.peer, .string x.client])).run Try.prog w = .ok (.bool false) w := fun w => by rw [neq37, eq3_refl]; rfl
    clear hi hix hid
    clear hL1
    refine hm.mono ?_
    clear hm
    rintro e y5 hpost
    obtain ⟨he, hb⟩ := memb_ret hpost hf
    clear hf hpost
    subst he
    have hA6 := below_step hA5 hb
    clear hA5 hb
    go_wp2_with fail
    have hbx := box_new y5 #[.string x.id, .string x.peer, .string x.client] 37
    have hA7 := below_step hA6 (below_alloc y5 (Obj.cells #[.string x.id, .string x.peer, .string x.client] 37))
    generalize y5.alloc (Obj.cells #[.string x.id, .string x.peer, .string x.client] 37) = y6 at *
    generalize y5.heap.size = G at *
    clear hA6
    refine (has_any a1 n1 d1 m1 id _ (by omega) (h1.grow hA7 (Nat.le_refl _))).mono ?_
    rintro e y ⟨he, hy⟩
    rw [g1] at he
    subst he
    subst y
    have e0 := hbx.cell 0 (.string x.id) rfl
    have e1 := hbx.cell 1 (.string x.peer) rfl
    have e2 := hbx.cell 2 (.string x.client) rfl
    go_wp2_with fail
    refine (in_any a1 n1 d1 m1 x _ (by omega) (h1.grow hA7 (Nat.le_refl _))).mono ?_
    rintro e z ⟨he, hb⟩
    replace hA7 := below_step hA7 hb
    replace hbx := hbx.grow hb
    clear e0 e1 e2 hb
    have e0 := hbx.cell 0 (.string x.id) rfl
    have e1 := hbx.cell 1 (.string x.peer) rfl
    have e2 := hbx.cell 2 (.string x.client) rfl
    rw [hin] at he
    subst he
    go_wp2_with fail
    all_goals
      clear e0 e1 e2
      refine (conv_any a1 n1 d1 m1 _ b1 L1.out (h1.grow hA7 (Nat.le_refl _))).mono ?_
      rintro e p1 ⟨⟨v, c, rfl, k1⟩, hb⟩
      replace hA7 := below_step hA7 hb
      replace hbx := hbx.grow hb
      clear hb
      go_wp2_with fail
      have hbh := box_new p1 #[.int .u64 0, .int .u64 0, .int .u64 0, .slice v n1 c, .slice none 0 0, .slice none 0 0, .slice none 0 0] 35
      have hb := below_alloc p1 (Obj.cells #[.int .u64 0, .int .u64 0, .int .u64 0, .slice v n1 c, .slice none 0 0, .slice none 0 0, .slice none 0 0] 35)
      replace hA7 := below_step hA7 hb
      replace hbx := hbx.grow hb
      replace k1 := k1.grow hb (Nat.le_refl _)
      clear hb
      generalize p1.alloc (Obj.cells #[.int .u64 0, .int .u64 0, .int .u64 0, .slice v n1 c, .slice none 0 0, .slice none 0 0, .slice none 0 0] 35) = p2 at *
      generalize p1.heap.size = H at *
      refine (conv_any a2 n2 d2 m2 _ b2 L2.out (h2.grow hA7 (Nat.le_refl _))).mono ?_
      rintro e p3 ⟨⟨v', c', rfl, k2⟩, hb⟩
      replace hA7 := below_step hA7 hb
      replace hbx := hbx.grow hb
      replace hbh := hbh.grow hb
      replace k1 := k1.grow hb (Nat.le_refl _)
      clear hb
      go_wp2_with fail
      refine (conv_any a3 n3 d3 m3 _ b3 L3.out (h3.grow hA7 (Nat.le_refl _))).mono ?_
      rintro e p4 ⟨⟨v'', c'', rfl, k3⟩, hb⟩
      replace hA7 := below_step hA7 hb
      replace hbx := hbx.grow hb
      replace hbh := hbh.grow hb
      replace k1 := k1.grow hb (Nat.le_refl _)
      replace k2 := k2.grow hb (Nat.le_refl _)
      clear hb
      have hb := below_alloc p4 (Obj.cells #[.int .u64 0, .int .u64 0, .int .u64 0, .slice v' n2 c', .slice v'' n3 c'', .slice none 0 0, .slice none 0 0] 35)
      replace hA7 := below_step hA7 hb
      replace hbx := hbx.grow hb
      replace hbh := hbh.grow hb
      replace k1 := k1.grow hb (Nat.le_refl _)
      replace k2 := k2.grow hb (Nat.le_refl _)
      replace k3 := k3.grow hb (Nat.le_refl _)
      have hbr := box_new p4 #[.int .u64 0, .int .u64 0, .int .u64 0, .slice v' n2 c', .slice v'' n3 c'', .slice none 0 0, .slice none 0 0] 35
      have t0 := hbh.cell 0 _ rfl
      have t1 := hbh.cell 1 _ rfl
      have t2 := hbh.cell 2 _ rfl
      have t3 := hbh.cell 3 _ rfl
      have t4 := hbh.cell 4 _ rfl
      have t5 := hbh.cell 5 _ rfl
      have t6 := hbh.cell 6 _ rfl
      clear hb
      go_wp2_with fail
      clear t0 t1 t2 t3 t4 t5 t6 hbh
      generalize p4.alloc (Obj.cells #[.int .u64 0, .int .u64 0, .int .u64 0, .slice v' n2 c', .slice v'' n3 c'', .slice none 0 0, .slice none 0 0] 35) = p5 at *
      generalize p4.heap.size = R at *
      refine (memb_any (.int .u64 0) (.int .u64 0) (.int .u64 0) (.slice none 0 0) v none none n1 0 0 c 0 0 m1 m1 m1 id p5 (by omega) (by omega) (by omega) HS1.out (sorted_none _) (sorted_none _) k1 (memsAt_none _ _ _) (memsAt_none _ _ _)).mono ?_
      rintro e p6 hpost
      obtain ⟨he, hb⟩ := memb_ret hpost hf1
      clear hpost hf1
      subst he
      replace hA7 := below_step (below_step hA7 hb) (below_alloc p6 (Obj.cells #[.string x.id, .string x.peer, .string x.client] 37))
      replace hbx := (hbx.grow hb).grow (below_alloc p6 (Obj.cells #[.string x.id, .string x.peer, .string x.client] 37))
      have e0 := hbx.cell 0 (.string x.id) rfl
      have e1 := hbx.cell 1 (.string x.peer) rfl
      have e2 := hbx.cell 2 (.string x.client) rfl
      go_wp2_with fail
      go_ret
      exact ⟨rfl, hA7⟩
end Go.Proofs.Qxb6630823a
