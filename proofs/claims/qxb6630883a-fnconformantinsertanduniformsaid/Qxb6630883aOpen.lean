import Derived.Test.Qxb6630883aMem
import Derived.ProofKit
import Derived.OpenShut
import Derived.ShutString
import Derived.ChangeOld
import Derived.Below
import Derived.Deep.Slices
import Derived.Lib.SmallJoins
namespace Go.Proofs.Qxb6630883a
open Go.ChangeShapes Go.WideShapes Go.ChangeAt Go.RowKit

theorem spot_none {w : World} {b off : Nat} {sp : Option Nat} {v : Value} (h : w.cell? ((⟨b, off, sp⟩ : Addr).add 0) = some v) : sp = none := by
  cases sp with
  | none => rfl
  | some q =>
    simp [Addr.add, World.cell?] at h
    split at h <;> simp_all
theorem Try.cells29 : Try.prog.cellsOf 29 = 4 := by kernel_rfl
theorem Try.cells9 : Try.prog.cellsOf 9 = 1 := by kernel_rfl
theorem Try.cells3 : Try.prog.cellsOf 3 = 1 := by kernel_rfl
/-- One finding, opened. -/
theorem open_finding {H : Type} {enc : TypeId × Value → H} {W : World} {n : Nat} {cs : List Value} {x : DataW H × List MemPlace} (h : DataW.trod enc Try.prog W 0 (fun _ => true) true n 29 cs = some x) :
    ∃ t : Int × ByteArray × ByteArray × ByteArray, cs = [.int .i64 t.1, .string t.2.1, .string t.2.2.1, .string t.2.2.2] := by
  obtain ⟨y0, y1, y2, y3, k, _, hl, h0, h1, h2, h3⟩ := Go.Joins.trod_struct4 Try.underlying29 h
  rw [Try.cells29] at hl
  match cs, hl with
  | [u0, u1, u2, u3], _ =>
    rw [Try.cells3] at h0
    rw [Try.cells9] at h1 h2 h3
    obtain ⟨s0, e0, _, _⟩ := DataW.trod_int Try.underlying3 h0
    obtain ⟨s1, e1, _, _⟩ := DataW.trod_string Try.underlying9 h1
    obtain ⟨s2, e2, _, _⟩ := DataW.trod_string Try.underlying9 h2
    obtain ⟨s3, e3, _, _⟩ := DataW.trod_string Try.underlying9 h3
    simp at e0 e1 e2 e3
    exact ⟨(s0, s1, s2, s3), by simp [e0, e1, e2, e3]⟩
/-- A slice of findings, opened. -/
theorem open_findings {H : Type} {enc : TypeId × Value → H} {W : World} {a : Option Addr} {len cap : Nat} {d : DataW H} {p : List MemPlace} (h : DataW.Trod enc Try.prog W 0 (fun _ => true) true 22 (.slice a len cap) d p) :
    ∃ fs, len ≤ 9223372036854775807 ∧ (a = none → len = 0 ∧ cap = 0) ∧ FsAt W a len fs := by
  obtain ⟨fuel, hf⟩ := h
  rcases Go.Deep.open_slice Try.underlying22 hf with ⟨hcs, _⟩ | ⟨x, l, c, m, n, D, Pl, hcs, _, hl, hm, hmm, _, hx⟩
  · simp [Value.cells] at hcs
    obtain ⟨rfl, rfl, rfl⟩ := hcs
    exact ⟨fun _ => zero4, Nat.zero_le _, fun _ => ⟨rfl, rfl⟩, fun h => absurd h (by omega)⟩
  · simp [Value.cells] at hcs
    obtain ⟨rfl, rfl, rfl⟩ := hcs
    obtain rfl : m = cap := by simpa using hmm
    rw [Try.cells29] at hx
    obtain ⟨F, hF⟩ := Go.Deep.choose_lt (α := Int × ByteArray × ByteArray × ByteArray) (p := fun i t => W.cell? ((x.add (i * 4)).add 0) = some (.int .i64 t.1) ∧ W.cell? ((x.add (i * 4)).add 1) = some (.string t.2.1) ∧ W.cell? ((x.add (i * 4)).add 2) = some (.string t.2.2.1) ∧ W.cell? ((x.add (i * 4)).add 3) = some (.string t.2.2.2)) (fun i hi => by
      obtain ⟨cs', h1, h2⟩ := hx i hi
      obtain ⟨t, rfl⟩ := open_finding h2
      obtain ⟨_, _, hc⟩ := World.cells?_some h1
      exact ⟨t, hc 0 (by omega), hc 1 (by omega), hc 2 (by omega), hc 3 (by omega)⟩)
    unfold maxLen at hm
    refine ⟨fun i => ⟨(F i).1, (F i).2.1, (F i).2.2.1, (F i).2.2.2⟩, by omega, (fun h => by cases h), fun hp => ?_⟩
    obtain ⟨b, off, sp⟩ := x
    have h00 := (hF 0 (by omega)).1
    obtain rfl : sp = none := by
      have h01 : W.cell? ((⟨b, off, sp⟩ : Addr).add 0) = some (.int .i64 (F 0).1) := by
        refine Eq.trans ?_ h00
        cases sp <;> simp [Addr.add]
      exact spot_none h01
    refine ⟨b, off, rfl, fun i hi => ?_⟩
    have := hF i (by omega)
    simp only [Addr.add_mid] at this
    exact this
end Go.Proofs.Qxb6630883a
