import Derived.Test.Qxb6630823aConv
namespace Go.Proofs.Qxb6630823a
open Go.RowKit

theorem cmp_lt (x y : ByteArray) (w : World) (h : ltS x y = true) : Calls Try.prog 16 #[.string x, .string y] w fun e w' => e = .returned (.int .i64 (-1)) ∧ w' = w := by
  have h' : Op.bytesLess x.toList y.toList = true := h
  clear h
  go_enter Try.func16, Try.ntmps16
  go_wp2
  go_ret
  exact ⟨rfl, rfl⟩
theorem cmp_eq (x y : ByteArray) (w : World) (h : ltS x y = false) (h2 : eqS x y = true) : Calls Try.prog 16 #[.string x, .string y] w fun e w' => e = .returned (.int .i64 0) ∧ w' = w := by
  have h' : Op.bytesLess x.toList y.toList = false := h
  have h2' : (x.toList == y.toList) = true := h2
  clear h h2
  go_enter Try.func16, Try.ntmps16
  go_wp2
  go_ret
  exact ⟨rfl, rfl⟩
theorem cmp_gt (x y : ByteArray) (w : World) (h : ltS x y = false) (h2 : eqS x y = false) : Calls Try.prog 16 #[.string x, .string y] w fun e w' => e = .returned (.int .i64 1) ∧ w' = w := by
  have h' : Op.bytesLess x.toList y.toList = false := h
  have h2' : (x.toList == y.toList) = false := h2
  clear h h2
  go_enter Try.func16, Try.ntmps16
  go_wp2
  go_ret
  exact ⟨rfl, rfl⟩

def cmpI (x y : ByteArray) : Int := if ltS x y = true then -1 else if eqS x y = true then 0 else 1
theorem cmp_any (x y : ByteArray) (w : World) : Calls Try.prog 16 #[.string x, .string y] w fun e w' => e = .returned (.int .i64 (cmpI x y)) ∧ w' = w := by
  unfold cmpI
  cases h : ltS x y
  · cases h2 : eqS x y
    · exact cmp_gt x y w h h2
    · exact cmp_eq x y w h h2
  · exact cmp_lt x y w h
theorem compareID_any (m : M3) (id : ByteArray) (w : World) : Calls Try.prog 15 #[memV m, .string id] w fun e w' => e = .returned (.int .i64 (cmpI m.id id)) ∧ Below w.heap.size w w' := by
  unfold memV
  go_enter Try.func15, Try.ntmps15
  go_wp2_with (go_at_call 16; refine (cmp_any _ _ _).mono ?_; rintro e w1 ⟨rfl, rfl⟩)
  go_ret
  exact ⟨rfl, (Below.refl _ _).alloc (Nat.le_refl _) _⟩
theorem cmpI_neg {x y : ByteArray} (h : ltS x y = true) : cmpI x y = -1 := by simp [cmpI, h]
theorem cmpI_nonneg {x y : ByteArray} (h : ltS x y = false) : 0 ≤ cmpI x y ∧ (cmpI x y == 0) = eqS x y := by
  unfold cmpI
  rw [if_neg (by simp [h])]
  cases eqS x y <;> simp

/-- What the binary search gives. -/
structure SearchPost (n : Nat) (ms : Nat → M3) (id : ByteArray) (w : World) (e : Ending) (w' : World) : Prop where
  ex : ∃ (i : Nat) (b : Bool), e = .returned (.tuple #[.int .i64 i, .bool b]) ∧ (b = true → i < n ∧ look ms id n = some (ms i)) ∧ (b = false → look ms id n = none)
  below : Below w.heap.size w w'

theorem less_before {ms : Nat → M3} {id : ByteArray} {n h : Nat} (hs : Sorted ms n) (hh : h < n) (hl : ltS (ms h).id id = true) : ∀ k, k < h + 1 → ltS (ms k).id id = true := by
  intro k hk
  cases e : ltS (ms k).id id with
  | true => rfl
  | false =>
    have h1 := sorted_le hs k (h - k) (by omega)
    rw [show k + (h - k) = h by omega] at h1
    have := bl_ntrans _ _ _ e h1
    rw [ltS, this] at hl
    cases hl

set_option maxRecDepth 100000 in
set_option maxHeartbeats 1000000 in
theorem search_any (a : Option Addr) (n c : Nat) (ms : Nat → M3) (id : ByteArray) (w : World) (hn : n ≤ 1048576) (hs : Sorted ms n) (h : MemsAt w a n ms) :
    Calls Try.prog 14 #[.slice a n c, .string id, .func (.func 15) #[] #[]] w fun e w' => SearchPost n ms id w e w' := by
  go_enter Try.func14, Try.ntmps14
  go_wp2_with fail
  go_loopg [9, 10, 11] n (fun q i j _ wr => ∃ lo hi : Nat, lo ≤ hi ∧ hi ≤ n ∧ hi - lo ≤ q ∧ i = .int .i64 lo ∧ j = .int .i64 hi ∧ Hid ((∀ k, k < lo → ltS (ms k).id id = true) ∧ (hi < n → ltS (ms hi).id id = false)) ∧ Below w.heap.size w wr)
  case atStart => exact ⟨0, n, by omega, by omega, by omega, rfl, rfl, ⟨fun k hk => absurd hk (by omega), fun h => absurd h (by omega)⟩, Below.refl _ _⟩
  case round =>
    obtain ⟨lo, hi, hlh, hhn, hq, rfl, rfl, HI, hb⟩ := hrel
    have HS : Hid (Sorted ms n) := hs
    clear hs
    by_cases hlt : lo < hi
    · obtain ⟨b, o, hx, hc⟩ := h.grow hb (Nat.le_refl _) (by omega)
      subst hx
      obtain ⟨md, hmd⟩ : ∃ md : Nat, md = (lo + hi) / 2 := ⟨_, rfl⟩
      have m1 : lo ≤ md := by omega
      have m2 : md < hi := by omega
      have HM : Hid (md = (lo + hi) / 2) := hmd
      obtain ⟨c0, c1, c2⟩ := hc md (by omega)
      have hmi : ((lo : Int) + (hi : Int)) / 2 = md := by omega
      clear hc h hmd
      cases hl : ltS (ms md).id id
      · have HC := (cmpI_nonneg hl).1
        go_wp2_with (go_at_call 15; refine (compareID_any (ms md) id _).mono ?_; rintro e w1 ⟨rfl, hb1⟩)
        go_roundg (md - lo)
        case measure => omega
        case rel => exact ⟨lo, md, m1, by omega, by omega, rfl, rfl, ⟨HI.out.1, fun _ => hl⟩, hb.trans (hb1.mono hb.size)⟩
      · have HC := cmpI_neg hl
        have HL : Hid (ltS (ms md).id id = true) := hl
        clear hl
        go_wp2_with (go_at_call 15; refine (compareID_any (ms md) id _).mono ?_; rintro e w1 ⟨rfl, hb1⟩)
        go_roundg (hi - (md + 1))
        case measure => omega
        case rel => exact ⟨md + 1, hi, by omega, by omega, by omega, by go_num, rfl, ⟨less_before HS.out (by omega) HL.out, HI.out.2⟩, hb.trans (hb1.mono hb.size)⟩
    · obtain rfl : lo = hi := by omega
      have HK : Hid (look ms id n = if lo < n ∧ eqS (ms lo).id id = true then some (ms lo) else none) := look_at HS.out hhn HI.out.1 HI.out.2
      by_cases hln : lo < n
      · obtain ⟨b, o, hx, hc⟩ := h.grow hb (Nat.le_refl _) (by omega)
        subst hx
        obtain ⟨c0, c1, c2⟩ := hc lo hln
        have HC := (cmpI_nonneg (HI.out.2 hln)).2
        have hd : decide ((lo : Int) < (n : Int)) = true := decide_eq_true (by omega)
        clear hc h
        go_wp2_with (go_at_call 15; refine (compareID_any (ms lo) id _).mono ?_; rintro e w1 ⟨rfl, hb1⟩)
        go_ret2
        refine ⟨⟨lo, eqS (ms lo).id id, rfl, (fun h0 => ⟨hln, by rw [HK.out, if_pos ⟨hln, h0⟩]⟩), (fun h0 => by rw [HK.out, if_neg (by simp [h0])])⟩, hb.trans (hb1.mono hb.size)⟩
      · have hd : decide ((lo : Int) < (n : Int)) = false := decide_eq_false (by omega)
        clear h
        go_wp2_with fail
        go_ret2
        refine ⟨⟨lo, false, rfl, (fun h0 => by cases h0), (fun _ => by rw [HK.out, if_neg (fun h => hln h.1)])⟩, hb⟩
end Go.Proofs.Qxb6630823a
