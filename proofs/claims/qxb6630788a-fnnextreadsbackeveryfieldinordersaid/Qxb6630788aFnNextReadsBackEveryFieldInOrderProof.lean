/- The proof of 'Rows.FnNextReadsBackEveryFieldInOrderSaid'; the frame is the given shell's, turned to a slice of byte slices. -/
import Derived.Test.Qxb6630788aRows
import Derived.Test.Qxb6630788aAllW
import Derived.WalkKit
import Derived.ProofKit
import Derived.OpenShut
import Derived.ShutString
import Derived.ChangeOld
import Derived.Below
import Derived.Deep.Slices
namespace Go.Proofs.Qxb6630788a.fnNextReadsBackEveryFieldInOrder
open Go.ChangeShapes Go.WideShapes Go.ChangeAt Go.RowKit
open Go.ChangeMaps (open_string shut_string)
set_option linter.unusedVariables false

theorem own : ownKnob Try.prog.godebug = none := by kernel_rfl
theorem laidOut : laidOutB Try.prog = true := by kernel_rfl

theorem walk_off (a : Option Addr) (n c : Nat) (fa : Nat → Option Addr) (fl : Nat → List Int) (fc : Nat → Nat) (w : World) (hn : n ≤ 9223372036854775807) (hb : 65536 < n) (hf : FieldsAt w a n fa fl fc) :
    Calls Try.prog 4 #[.slice a n c] w fun e w' => LawPost w e w' := by
  go_enter Try.func4, Try.ntmps4
  go_wp2_with fail
  refine (bytes9 a n c fa fl fc w hn hf).mono ?_
  rintro e w1 ⟨bl, rfl, hw1, hlen⟩
  subst w1
  clear hf hlen
  cases bl
  case false =>
    go_wp2_with fail
    go_ret
    exact lawPost_same w
  case true =>
    go_wp2_with fail
    go_ret
    exact lawPost_same w
theorem walk (a : Option Addr) (n c : Nat) (fa : Nat → Option Addr) (fl : Nat → List Int) (fc : Nat → Nat) (w : World) (hn : n ≤ maxLen) (hf : FieldsAt w a n fa fl fc) :
    Calls Try.prog 4 #[.slice a n c] w fun e w' => e = .returned (.bool true) ∧ Below w.heap.size w w' := by
  unfold maxLen at hn
  show Calls Try.prog 4 #[.slice a n c] w fun e w' => LawPost w e w'
  by_cases h : 65536 < n
  · exact walk_off a n c fa fl fc w (by omega) h hf
  · exact all_main a n c fa fl fc w (by omega) hf

theorem spot_none {w : World} {b off : Nat} {sp : Option Nat} {v : Value} (h : w.cell? ((⟨b, off, sp⟩ : Addr).add 0) = some v) : sp = none := by
  cases sp with
  | none => rfl
  | some q =>
    simp [Addr.add, World.cell?] at h
    split at h <;> simp_all
/-- One field, opened. -/
theorem open_field {H : Type} {enc : TypeId × Value → H} {W : World} {n : Nat} {v : Value} {d : DataW H} {ps : List MemPlace} (h : DataW.trod enc Try.prog W 0 (fun _ => true) true n 22 [v] = some (d, ps)) :
    ∃ t : Option Addr × List Int × Nat, v = .slice t.1 t.2.1.length t.2.2 ∧ BytesAt W t.1 t.2.1 ∧ t.2.1.length ≤ 9223372036854775807 := by
  rcases open_ints Try.underlying22 Try.underlying5 (by kernel_rfl) h with ⟨hcs, _⟩ | ⟨x, l, c, zs, hcs, _, hl, hm, hz, _, hcell, hwz⟩
  · simp at hcs
    exact ⟨(none, [], 0), hcs, fun h => absurd h (by simp), by simp⟩
  · simp at hcs
    unfold maxLen at hm
    have hz' : zs.length = c := by simpa using hz
    have hlen : (zs.take l).length = l := by rw [List.length_take]; omega
    refine ⟨(some x, zs.take l, c), by rw [hcs, hlen], fun hp => ?_, by show (zs.take l).length ≤ _; omega⟩
    have hp' : 0 < l := by rw [← hlen]; exact hp
    obtain ⟨b, off, sp⟩ := x
    obtain rfl := spot_none (hcell 0 (by omega))
    refine ⟨b, off, rfl, fun i hi => ?_⟩
    have hi' : i < l := by rw [← hlen]; exact hi
    have := hcell i (by omega)
    rw [Addr.add_mid] at this
    refine this.trans ?_
    show some (Value.int .u8 (zs.getD i 0)) = some (Value.int .u8 ((zs.take l).getD i 0))
    rw [List.getD_eq_getElem?_getD, List.getD_eq_getElem?_getD, List.getElem?_take_of_lt (by omega)]

set_option maxRecDepth 100000 in
theorem lifted (os : Os) (started : os.Started) (H : Type) (enc : TypeId × Value → H) :
    ReturnsInHanded {} Try.checked os 4 .any (Rows.fnNextReadsBackEveryFieldInOrderSpec.pre6 enc Try.prog Try.f4 Rows.fnNextReadsBackEveryFieldInOrderRow.domain false) (Rows.fnNextReadsBackEveryFieldInOrderSpec.post enc Try.prog Try.f4 false true false false) := by
  refine returnsInHanded_of_change (C := Try.checked) own started (by kernel_rfl) Try.func4
    (ChangeSpec.witness6 (enc := enc) (C := Try.checked) false ⟨#[], #[.slice none 0 0], []⟩ 8 (by kernel_rfl) (by kernel_rfl) (by kernel_rfl) (by kernel_rfl)) ?_
  intro W base args ds gs before hval0 hW hcnd _
  have hval : ∀ (j : Nat) t v, Try.f4.params[j]? = some t → args[j]? = some v → Value.okWide Try.prog W .any base t v := hval0
  have hW' := hW
  obtain ⟨p, q, hA0, hV, rfl, hfz, hnd⟩ := hW
  have hA : DataW.TrodAll enc Try.prog W 0 (fun _ => true) true Try.f4.params.toList args.toList ds p := hA0
  rw [Try.params4] at hA hval
  obtain ⟨v0, vs0, d0, ds0, p0, q0, hargs, rfl, rfl, h0, r0⟩ := trodAll_cons hA
  obtain ⟨rfl, rfl, rfl⟩ := trodAll_nil r0
  obtain rfl : args = #[v0] := by cases args; simp_all
  obtain ⟨rfl, rfl⟩ := trodVars_none hV
  obtain ⟨a0, len0, cap0, rfl⟩ := okWide_slice Try.underlying28 (hval 0 28 v0 rfl rfl)
  have k0 := h0
  have lt0 : ∀ x ∈ p0, x.block < W.heap.size := by obtain ⟨m, hm⟩ := k0; exact DataW.trod_lt m _ _ _ hm
  obtain ⟨fa, fl, fc, hlen, w0⟩ : ∃ fa fl fc, len0 ≤ maxLen ∧ FieldsAt W a0 len0 fa fl fc := by
    obtain ⟨fuel, hf⟩ := h0
    rcases Go.Deep.open_slice1 Try.underlying28 (by kernel_rfl) hf with ⟨hcs, _⟩ | ⟨x, l, c, m, n, V, D, Pl, hcs, _, hl, hm, hmm, _, hx⟩
    · simp [Value.cells] at hcs
      obtain ⟨rfl, rfl, rfl⟩ := hcs
      exact ⟨fun _ => none, fun _ => [], fun _ => 0, Nat.zero_le _, fun h => absurd h (by omega), fun i hi => absurd hi (by omega)⟩
    · simp [Value.cells] at hcs
      obtain ⟨rfl, rfl, rfl⟩ := hcs
      obtain rfl : m = cap0 := by simpa using hmm
      obtain ⟨F, hF⟩ := Go.Deep.choose_lt (α := Option Addr × List Int × Nat) (p := fun i t => V i = .slice t.1 t.2.1.length t.2.2 ∧ BytesAt W t.1 t.2.1 ∧ t.2.1.length ≤ 9223372036854775807) (fun i hi => open_field (hx i hi).2)
      refine ⟨fun i => (F i).1, fun i => (F i).2.1, fun i => (F i).2.2, by omega, fun hp => ?_, fun i hi => (hF i (by omega)).2⟩
      obtain ⟨b, off, sp⟩ := x
      obtain rfl := spot_none (hx 0 (by omega)).1
      refine ⟨b, off, rfl, fun i hi => ?_⟩
      have := (hx i (by omega)).1
      rw [Addr.add_mid] at this
      rw [this, (hF i (by omega)).1]
  clear hA0 hval0
  refine (walk a0 len0 cap0 fa fl fc W hlen w0).mono fun e W' ⟨he, bel⟩ => ?_
  subst he
  exact ⟨_, rfl, _, _, _, [], _, [], hW', trodAll_mk1 (shut_bool Try.underlying4 _), (trodAll_cons_mk (Below.trod laidOut (by kernel_rfl) (of_decide_eq_true (by kernel_rfl)) k0 bel lt0) trodAll_mk0), rfl, bel.frame _, fun h => by cases h⟩

theorem over : Rows.fnNextReadsBackEveryFieldInOrderRow.holds Try.pinned (OpenSpec.ofChange Rows.fnNextReadsBackEveryFieldInOrderSpec) :=
  OpenClaim.holds_of_wide 4 Try.f4 rfl rfl rfl rfl rfl rfl rfl ⟨rfl, rfl, rfl, rfl, rfl⟩ rfl rfl rfl rfl rfl (by kernel_rfl) Try.func4 (by kernel_rfl)
    (of_decide_eq_true (by kernel_rfl)) (by unfold Func.isWrapper; first | (rw [if_pos (by decide +kernel)]; kernel_rfl) | (rw [if_neg (by decide +kernel)]; exact ⟨rfl, rfl⟩))
    (fun os started H enc _ => lifted os started H enc)

/-- THE STATEMENT -/
theorem proved : Rows.FnNextReadsBackEveryFieldInOrderSaid := over
end Go.Proofs.Qxb6630788a.fnNextReadsBackEveryFieldInOrder
