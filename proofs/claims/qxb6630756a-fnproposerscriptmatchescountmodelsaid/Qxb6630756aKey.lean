import Derived.Test.Qxb6630756aAddr
import Derived.Maps.Own
import Derived.DeepKeys4
namespace Go.Proofs.Qxb6630756a
open Go.RowKit Go.WideMaps Go.Maps

theorem Try.laidOut : laidOutB Try.prog = true := by kernel_rfl
theorem law33 : Keyed Try.prog 33 := Keyed.of_law (deep_law_laid Try.laidOut (m := 2) (by decide) (of_decide_eq_true (by kernel_rfl)) (by kernel_rfl) (by kernel_rfl))
theorem Try.cells33 : Try.prog.cellsOf 33 = 20 := by kernel_rfl
theorem Try.cells5 : Try.prog.cellsOf 5 = 1 := by kernel_rfl
theorem Try.types1 : Try.prog.types.size + 1 = (Try.prog.types.size - 1) + 1 + 1 := by
  have : 0 < Try.prog.types.size := of_decide_eq_true (by kernel_rfl)
  omega

theorem mapM_isSome {α β : Type} (f : α → Option β) : ∀ l : List α, (∀ x ∈ l, (f x).isSome = true) → (l.mapM f).isSome = true
  | [], _ => rfl
  | a :: r, h => by
    obtain ⟨b, hb⟩ := Option.isSome_iff_exists.1 (h a (by simp))
    obtain ⟨c, hc⟩ := Option.isSome_iff_exists.1 (mapM_isSome f r (fun x hx => h x (by simp [hx])))
    simp [List.mapM_cons, hb, hc]

theorem key_some (cs : Array Value) (hs : cs.size = 20) (h : ∀ i, i < 20 → ∃ n : Int, cs[i]? = some (.int .u8 n) ∧ 0 ≤ n ∧ n ≤ 255) : ∃ kl, keyOf Try.prog 33 (.agg cs) = some kl := by
  have hk : Try.prog.keyType 33 = true := by kernel_rfl
  have hf : Value.formed Try.prog 33 (.agg cs) = true := by simp [Value.formed, Try.underlying33, Try.cells33, hs]
  have hl : (Try.prog.keyLits (Try.prog.types.size + 1) 33 cs.toList).isSome = true := by
    rw [Try.types1]
    have e : ∀ d, Try.prog.keyLits (d + 1 + 1) 33 cs.toList = ((List.range 20).mapM fun i => Try.prog.keyLits (d + 1) 5 ((cs.toList.drop (i * Try.prog.cellsOf 5)).take (Try.prog.cellsOf 5))).map List.flatten := by
      intro d
      conv => lhs; unfold Program.keyLits
      rw [Try.underlying33]
      show (if cs.toList.length = Try.prog.cellsOf 33 then _ else _) = _
      rw [if_pos (by simp [hs, Try.cells33])]
    rw [e, Option.isSome_map]
    apply mapM_isSome
    intro i hi
    have hi20 : i < 20 := by simpa using hi
    obtain ⟨n, hn, h0, h1⟩ := h i hi20
    have ht : (cs.toList.drop (i * Try.prog.cellsOf 5)).take (Try.prog.cellsOf 5) = [.int .u8 n] := by
      rw [Try.cells5, Nat.mul_one]
      have : cs.toList[i]? = some (.int .u8 n) := by simpa using hn
      obtain ⟨hlt, he⟩ := List.getElem?_eq_some_iff.1 this
      rw [List.drop_eq_getElem_cons hlt, he]; rfl
    rw [ht]
    unfold Program.keyLits
    rw [Try.underlying5]
    show (if _ ∧ _ then _ else _ : Option (List Lit)).isSome = true
    rw [if_pos ⟨rfl, by simp [Lit.wf, IntKind.min, IntKind.max, IntKind.signed, IntKind.bits]; omega⟩]
    rfl
  obtain ⟨ls, hls⟩ := Option.isSome_iff_exists.1 hl
  refine ⟨.string (keyBytes ls), ?_⟩
  unfold keyOf
  rw [Try.underlying33]
  show (if (Try.prog.keyType 33 && Value.formed Try.prog 33 (.agg cs)) = true then (Try.prog.keyLits (Try.prog.types.size + 1) 33 cs.toList).map (fun ls => Lit.string (keyBytes ls)) else none) = _
  rw [hk, hf, hls]
  rfl

theorem key_addr (i : Nat) (hi : i < 4096) : ∃ kl, keyOf Try.prog 33 (.agg (addrCells i)) = some kl := by
  refine key_some _ (addrCells_size i) fun k hk => ?_
  have hcase : k = 0 ∨ k = 1 ∨ k = 2 ∨ k = 3 ∨ 4 ≤ k := by omega
  rcases hcase with rfl | rfl | rfl | rfl | h4
  · exact ⟨_, rfl, by omega, by omega⟩
  · exact ⟨_, rfl, by omega, by omega⟩
  · exact ⟨_, rfl, by omega, by omega⟩
  · exact ⟨_, rfl, by omega, by omega⟩
  · refine ⟨0, ?_, by omega, by omega⟩
    have : k = 4 ∨ k = 5 ∨ k = 6 ∨ k = 7 ∨ k = 8 ∨ k = 9 ∨ k = 10 ∨ k = 11 ∨ k = 12 ∨ k = 13 ∨ k = 14 ∨ k = 15 ∨ k = 16 ∨ k = 17 ∨ k = 18 ∨ k = 19 := by omega
    rcases this with rfl | rfl | rfl | rfl | rfl | rfl | rfl | rfl | rfl | rfl | rfl | rfl | rfl | rfl | rfl | rfl <;> rfl

end Go.Proofs.Qxb6630756a
