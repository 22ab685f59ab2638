/- The proof of 'Rows.FnProposerCycleCountsPowersAndRepeatsSaid'; the frame is the given shell's. -/
import Derived.Test.Qxb6630756aRows
import Derived.Test.Qxb6630756aCycW
import Derived.WalkKit
import Derived.ProofKit
import Derived.OpenShut
import Derived.ShutString
import Derived.ChangeOld
import Derived.Below
namespace Go.Proofs.Qxb6630756a.fnProposerCycleCountsPowersAndRepeats
open Go.ChangeShapes Go.WideShapes Go.ChangeAt Go.RowKit
open Go.ChangeMaps (open_string shut_string)
set_option linter.unusedVariables false

theorem own : ownKnob Try.prog.godebug = none := by kernel_rfl
theorem laidOut : laidOutB Try.prog = true := by kernel_rfl

/-- WHAT THE WALK IS TOLD OF A SLICE OF INTEGERS THAT CAME IN: it is nil; or it leads to a row of 'cap' cells, the numbers 'zs' (the first 'len' are its elements, the rest its spare room), each fitting its kind. -/
def IsRow (k : IntKind) (w : World) (a : Option Addr) (len cap : Nat) (zs : List Int) : Prop :=
  (a = none ∧ len = 0 ∧ cap = 0 ∧ zs = []) ∨
  ∃ x, a = some x ∧ len ≤ cap ∧ cap ≤ maxLen ∧ zs.length = cap ∧ (∀ i, i < zs.length → w.cell? (x.add i) = some (.int k (zs.getD i 0))) ∧ ∀ n ∈ zs, (Lit.int k n).wf = true

/-! ### THE WALK -/
theorem walk_empty (a : Option Addr) (c : Nat) (a1 a2 : Int) (w : World) :
    Calls Try.prog 4 #[.slice a 0 c, .int .i64 a1, .int .i32 a2] w fun e w' => LawPost w e w' := by
  go_enter Try.func4, Try.ntmps4
  go_wp2_with (first
    | (go_at_call 12; refine (bytes_any _ _ _ _ _ _ (Nat.zero_le _)).mono ?_; rintro e w1 ⟨rfl, hw1⟩; subst w1)
    | (go_at_call 6; refine (total_none _ _ _).mono ?_; rintro e w1 ⟨t, ok, rfl, hw1, hok⟩; subst w1; obtain rfl : ok = false := by (cases ok; rfl; exact absurd (hok rfl).1 (by simp))))
  all_goals (go_ret; exact lawPost_same w)
theorem walk_long (a : Option Addr) (n c : Nat) (a1 a2 : Int) (w : World) (hn : n ≤ maxLen) (hl : 4096 < n) :
    Calls Try.prog 4 #[.slice a n c, .int .i64 a1, .int .i32 a2] w fun e w' => LawPost w e w' := by
  by_cases hb : n ≤ 1048576
  · have hd : decide (n ≤ 1048576) = true := decide_eq_true hb
    go_enter Try.func4, Try.ntmps4
    go_wp2_with (go_at_call 12; refine (bytes_any _ _ _ _ _ _ hn).mono ?_; rintro e w1 ⟨rfl, hw1⟩; subst w1; rw [hd])
    go_ret
    exact lawPost_same w
  · have hd : decide (n ≤ 1048576) = false := decide_eq_false hb
    go_enter Try.func4, Try.ntmps4
    go_wp2_with (go_at_call 12; refine (bytes_any _ _ _ _ _ _ hn).mono ?_; rintro e w1 ⟨rfl, hw1⟩; subst w1; rw [hd])
    go_ret
    exact lawPost_same w
theorem walk_off (a : Option Addr) (n c : Nat) (a1 a2 : Int) (w : World) (hn : n ≤ 4096) (hl : a1 < 1 ∨ a2 < 0) :
    Calls Try.prog 4 #[.slice a n c, .int .i64 a1, .int .i32 a2] w fun e w' => LawPost w e w' := by
  have hm : n ≤ maxLen := by unfold maxLen; omega
  have hd : decide (n ≤ 1048576) = true := decide_eq_true (by omega)
  by_cases h1 : a1 < 1
  · go_enter Try.func4, Try.ntmps4
    go_wp2_with (go_at_call 12; refine (bytes_any _ _ _ _ _ _ hm).mono ?_; rintro e w1 ⟨rfl, hw1⟩; subst w1; rw [hd])
    go_ret
    exact lawPost_same w
  · have h2 : a2 < 0 := by omega
    clear hl
    go_enter Try.func4, Try.ntmps4
    go_wp2_with (go_at_call 12; refine (bytes_any _ _ _ _ _ _ hm).mono ?_; rintro e w1 ⟨rfl, hw1⟩; subst w1; rw [hd])
    go_ret
    exact lawPost_same w
theorem walk (a0 : Option Addr) (len0 cap0 : Nat) (z0 : List Int) (a1 : Int) (a2 : Int) (w : World) (w0 : IsRow .i64 w a0 len0 cap0 z0) (w1 : (Lit.int .i64 a1).wf = true) (w2 : (Lit.int .i32 a2).wf = true) :
    Calls Try.prog 4 #[.slice a0 len0 cap0, .int .i64 a1, .int .i32 a2] w fun e w' => e = .returned (.bool true) ∧ Below w.heap.size w w' := by
  have b1 : -9223372036854775808 ≤ a1 ∧ a1 ≤ 9223372036854775807 := by simpa [Lit.wf, IntKind.min, IntKind.max, IntKind.signed, IntKind.bits] using w1
  have b2 : -2147483648 ≤ a2 ∧ a2 ≤ 2147483647 := by simpa [Lit.wf, IntKind.min, IntKind.max, IntKind.signed, IntKind.bits] using w2
  show Calls Try.prog 4 #[.slice a0 len0 cap0, .int .i64 a1, .int .i32 a2] w fun e w' => LawPost w e w'
  by_cases h0 : len0 = 0
  · subst h0; exact walk_empty _ _ _ _ _
  rcases w0 with ⟨_, h, _⟩ | ⟨x, rfl, hlc, hcm, hzl, hcell, _⟩
  · exact absurd h h0
  by_cases hl : 4096 < len0
  · exact walk_long _ _ _ _ _ _ (by omega) hl
  by_cases ho : a1 < 1 ∨ a2 < 0
  · exact walk_off _ _ _ _ _ _ (by omega) ho
  obtain ⟨b, off, sp⟩ := x
  have hsp : sp = none := by
    have := hcell 0 (by omega)
    cases sp with
    | none => rfl
    | some q =>
      simp [Addr.add, World.cell?] at this
      split at this <;> simp_all
  subst hsp
  have hlen : (z0.take len0).length = len0 := by rw [List.length_take]; omega
  have := cyc_main b off cap0 (z0.take len0) a1 a2 w (by omega) (by omega) (fun i hi => by
    have h := hcell i (by omega)
    rw [show (⟨b, off, none⟩ : Addr).add i = ⟨b, off + i, none⟩ from Addr.add_mid b off i] at h
    rw [h, List.getD_eq_getElem?_getD, List.getD_eq_getElem?_getD, List.getElem?_take_of_lt (by omega)]) (by omega) (by omega) (by omega) (by omega)
  rw [hlen] at this
  exact this

/-! ### THE ROW's STEP: WRITTEN OUT: LEAVE IT -/
set_option maxRecDepth 100000 in
theorem lifted (os : Os) (started : os.Started) (H : Type) (enc : TypeId × Value → H) :
    ReturnsInHanded {} Try.checked os 4 .any (Rows.fnProposerCycleCountsPowersAndRepeatsSpec.pre6 enc Try.prog Try.f4 Rows.fnProposerCycleCountsPowersAndRepeatsRow.domain false) (Rows.fnProposerCycleCountsPowersAndRepeatsSpec.post enc Try.prog Try.f4 false true false false) := by
  refine returnsInHanded_of_change (C := Try.checked) own started (by kernel_rfl) Try.func4
    (ChangeSpec.witness6 (enc := enc) (C := Try.checked) false ⟨#[], #[.slice none 0 0, .int .i64 0, .int .i32 0], []⟩ 8 (by kernel_rfl) (by kernel_rfl) (by kernel_rfl) (by kernel_rfl)) ?_
  intro W base args ds gs before hval0 hW hcnd _
  have hval : ∀ (j : Nat) t v, Try.f4.params[j]? = some t → args[j]? = some v → Value.okWide Try.prog W .any base t v := hval0
  have hW' := hW
  obtain ⟨p, q, hA0, hV, rfl, hfz, hnd⟩ := hW
  have hA : DataW.TrodAll enc Try.prog W 0 (fun _ => true) true Try.f4.params.toList args.toList ds p := hA0
  rw [Try.params4] at hA hval
  obtain ⟨v0, vs0, d0, ds0, p0, q0, hargs, rfl, rfl, h0, r0⟩ := trodAll_cons hA
  obtain ⟨v1, vs1, d1, ds1, p1, q1, rfl, rfl, rfl, h1, r1⟩ := trodAll_cons r0
  obtain ⟨v2, vs2, d2, ds2, p2, q2, rfl, rfl, rfl, h2, r2⟩ := trodAll_cons r1
  obtain ⟨rfl, rfl, rfl⟩ := trodAll_nil r2
  obtain rfl : args = #[v0, v1, v2] := by cases args; simp_all
  obtain ⟨rfl, rfl⟩ := trodVars_none hV
  obtain ⟨a0, len0, cap0, rfl⟩ := okWide_slice Try.underlying23 (hval 0 23 v0 rfl rfl)
  have k0 := h0
  have lt0 : ∀ x ∈ p0, x.block < W.heap.size := by obtain ⟨m, hm⟩ := k0; exact DataW.trod_lt m _ _ _ hm
  obtain ⟨z0, w0⟩ : ∃ zs, IsRow .i64 W a0 len0 cap0 zs := by
    obtain ⟨fuel, hf⟩ := h0
    rcases open_ints Try.underlying23 Try.underlying2 (by kernel_rfl) hf with ⟨hcs, _⟩ | ⟨x, l, c, zs, hcs, _, hl, hm, hz, _, hcell, hwz⟩
    · simp [Value.cells] at hcs
      obtain ⟨rfl, rfl, rfl⟩ := hcs
      exact ⟨[], .inl ⟨rfl, rfl, rfl, rfl⟩⟩
    · simp [Value.cells] at hcs
      obtain ⟨rfl, rfl, rfl⟩ := hcs
      exact ⟨zs, .inr ⟨_, rfl, hl, hm, by simpa using hz, hcell, hwz⟩⟩
  obtain ⟨a1, rfl, rfl, rfl, w1⟩ := open_int Try.underlying2 (hval 1 2 v1 rfl rfl) h1
  obtain ⟨a2, rfl, rfl, rfl, w2⟩ := open_int Try.underlying21 (hval 2 21 v2 rfl rfl) h2
  clear hA0 hval0
  refine (walk a0 len0 cap0 z0 a1 a2 W w0 w1 w2).mono fun e W' ⟨he, bel⟩ => ?_
  subst he
  exact ⟨_, rfl, _, _, _, [], _, [], hW', trodAll_mk1 (shut_bool Try.underlying4 _), (trodAll_cons_mk (Below.trod laidOut (by kernel_rfl) (of_decide_eq_true (by kernel_rfl)) k0 bel lt0) (trodAll_cons_mk (shut_int Try.underlying2 w1) (trodAll_cons_mk (shut_int Try.underlying21 w2) trodAll_mk0))), rfl, bel.frame _, fun h => by cases h⟩

theorem over : Rows.fnProposerCycleCountsPowersAndRepeatsRow.holds Try.pinned (OpenSpec.ofChange Rows.fnProposerCycleCountsPowersAndRepeatsSpec) :=
  OpenClaim.holds_of_wide 4 Try.f4 rfl rfl rfl rfl rfl rfl rfl ⟨rfl, rfl, rfl, rfl, rfl⟩ rfl rfl rfl rfl rfl (by kernel_rfl) Try.func4 (by kernel_rfl)
    (of_decide_eq_true (by kernel_rfl)) (by unfold Func.isWrapper; first | (rw [if_pos (by decide +kernel)]; kernel_rfl) | (rw [if_neg (by decide +kernel)]; exact ⟨rfl, rfl⟩))
    (fun os started H enc _ => lifted os started H enc)

/-- ████ THE STATEMENT ████ -/
theorem proved : Rows.FnProposerCycleCountsPowersAndRepeatsSaid := over
end Go.Proofs.Qxb6630756a.fnProposerCycleCountsPowersAndRepeats
