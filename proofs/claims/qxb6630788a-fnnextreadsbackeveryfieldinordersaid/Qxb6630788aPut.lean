import Derived.Test.Qxb6630788aLeaf
namespace Go.Proofs.Qxb6630788a
open Go.RowKit

theorem Try.info5 : (Try.prog.info? 5).map (fun i => (i.zero, i.size, i.bytes)) = some (some (.int .u8 0), 1, 1) := by kernel_rfl

structure PutPost (g C : Nat) (l m : List Int) (w : World) (e : Ending) (w' : World) : Prop where
  ret : e = .returned (.slice (some ⟨g, 0, none⟩) (l ++ m).length C)
  data : DataAt w' g C (l ++ m)
  turn : Turn [g] w w'

theorem or128 (v : Nat) : bits BinOp.or IntKind.u8 ((v : Int) % 256) 128 = (v : Int) % 128 + 128 := by
  have h : ∀ q : Nat, q < 256 → bits BinOp.or IntKind.u8 (q : Int) 128 = ((q % 128 + 128 : Nat) : Int) := by decide +kernel
  have e : ((v : Int) % 256) = ((v % 256 : Nat) : Int) := by omega
  rw [e, h _ (by omega)]
  omega
theorem DataAt.one {w : World} {g C : Nat} {l : List Int} (h : DataAt w g C l) (x : Int) (o : Obj) (hm : l.length + 1 ≤ C) :
    DataAt ((w.alloc o).setCell ⟨g, l.length, none⟩ (.int .u8 x)) g C (l ++ [x]) := by
  have := (h.grow (w' := w.alloc o) (Below.heap_alloc _ _ _ h.lt)).put (m := [x]) hm
  exact this
theorem put_cells {w : World} {g C : Nat} {l : List Int} (h : DataAt w g C l) (hm : l.length + 1 ≤ C) :
    ∃ val, ∀ o, (w.alloc o).cell? ⟨g, l.length, none⟩ = some val ∧ (w.alloc o).frozen? ⟨g, l.length, none⟩ = false := by
  obtain ⟨h1, h2⟩ := h.there l.length (by omega)
  obtain ⟨val, hv⟩ := Option.isSome_iff_exists.1 h1
  refine ⟨val, fun o => ?_⟩
  have hb : Below w.heap.size w (w.alloc o) := (Below.refl _ _).alloc (Nat.le_refl _) _
  exact ⟨(hb.cell (p := ⟨g, l.length, none⟩) h.lt).trans hv, (hb.frozen (p := ⟨g, l.length, none⟩) h.lt).trans h2⟩

set_option maxHeartbeats 1000000 in
theorem put_any (g C : Nat) (l : List Int) (v : Nat) (w : World) (hd : DataAt w g C l) (hv : v < 2097152) (hr : l.length + (uv v).length ≤ C) (_hC : C ≤ 4294967296) :
    Calls Try.prog 6 #[.slice (some ⟨g, 0, none⟩) l.length C, .int .u64 v] w fun e w' => PutPost g C l (uv v) w e w' := by
  go_enter Try.func6, Try.ntmps6
  go_wp2_with fail
  go_loopg [0, 1] v (fun q b x wr => ∃ (l' : List Int) (v' : Nat), v' ≤ q ∧ v' < 2097152 ∧ l' ++ uv v' = l ++ uv v ∧ b = .slice (some ⟨g, 0, none⟩) l'.length C ∧ x = .int .u64 v' ∧ DataAt wr g C l' ∧ Turn [g] w wr)
  case atStart => exact ⟨l, v, Nat.le_refl _, hv, rfl, rfl, rfl, hd, Turn.refl _ _⟩
  case round =>
    obtain ⟨l', v', hq, hv', hl, rfl, rfl, hd', ht⟩ := hrel
    have hroom : l'.length + 1 ≤ C := by
      have := congrArg List.length hl
      simp only [List.length_append] at this
      have := uv_len v'
      omega
    have HL : Hid (l' ++ uv v' = l ++ uv v) := hl
    clear hl hd hr
    obtain ⟨val, hval⟩ := put_cells hd' hroom
    by_cases h128 : (128 : Int) ≤ (v' : Int)
    · have hb := or128 v'
      have hc1 := fun o => (hval o).1
      have hc2 := fun o => (hval o).2
      clear hval
      go_wp2_with fail
      go_roundg (v' / 128)
      case measure => omega
      case rel =>
        refine ⟨l' ++ [((v' % 128 + 128 : Nat) : Int)], v' / 128, Nat.le_refl _, by omega, ?_, by simp, by go_num, ?_, ?_⟩
        · rw [← HL.out, uv_step v' (by omega) hv']; simp
        · have := hd'.one ((v' : Int) % 128 + 128) (.cells #[.int .u8 ((v' : Int) % 128 + 128)] 5) hroom
          rw [show ((v' % 128 + 128 : Nat) : Int) = (v' : Int) % 128 + 128 by omega]
          exact this
        · exact (ht.alloc _).setCell _ _ _ (by simp)
    · have hm : (v' : Int) % 256 = v' := by omega
      have hc1 := fun o => (hval o).1
      have hc2 := fun o => (hval o).2
      clear hval
      go_wp2_with fail
      go_ret
      have hu := HL.out
      rw [uv_small v' (by omega)] at hu
      refine ⟨by rw [← hu]; simp, ?_, (ht.alloc _).setCell _ _ _ (by simp)⟩
      rw [← hu]
      exact hd'.one _ _ hroom
end Go.Proofs.Qxb6630788a
