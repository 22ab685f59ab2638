import Derived.Test.Qxb6630883aConv
import Derived.Test.Qxb6630883aByt
namespace Go.Proofs.Qxb6630883a
open Go.RowKit

structure LawPost (w : World) (e : Ending) (w' : World) : Prop where
  ret : e = .returned (.bool true)
  below : Below w.heap.size w w'
theorem conv_then {n : Nat} {fs : Nat → F4} {w w' : World} {e : Ending} (h : ConvPost n fs w e w') (hn : n ≤ 9223372036854775807) : ∃ v, e = .returned v ∧ Calls Try.prog 8 #[v] w' fun e2 w2 => ConfPost n fs w' e2 w2 := by
  rcases h.ex with ⟨rfl, rfl⟩ | ⟨g, rfl, k⟩
  · exact ⟨_, rfl, conf_any none 0 0 fs w' (by omega) (fun h => absurd h (by omega))⟩
  · exact ⟨_, rfl, conf_any _ n n fs w' hn k⟩
theorem beq_cast (j : Nat) : ((j == 0) == ((j : Int) == 0)) = true := by
  cases j with
  | zero => rfl
  | succ j =>
    have h1 : (j + 1 == 0) = false := by simp
    have h2 : (((j + 1 : Nat) : Int) == 0) = false := by
      simp only [beq_eq_false_iff_ne, ne_eq]
      omega
    rw [h1, h2]
    rfl
theorem b4 {w wr : World} {g l : Nat} (h : Below w.heap.size w wr) (hg : w.heap.size ≤ g) (x : F4) :
    Below w.heap.size w ((((wr.setCell ⟨g, l * 4, none⟩ (.int .i64 x.line)).setCell ⟨g, l * 4 + 1, none⟩ (.string x.sev)).setCell ⟨g, l * 4 + 2, none⟩ (.string x.rule)).setCell ⟨g, l * 4 + 3, none⟩ (.string x.text)) :=
  (((h.setCell (p := ⟨g, l * 4, none⟩) hg (.int .i64 x.line)).setCell (p := ⟨g, l * 4 + 1, none⟩) hg (.string x.sev)).setCell (p := ⟨g, l * 4 + 2, none⟩) hg (.string x.rule)).setCell (p := ⟨g, l * 4 + 3, none⟩) hg (.string x.text)

set_option maxRecDepth 100000 in
set_option maxHeartbeats 4000000 in
theorem law4_any (a : Option Addr) (n c : Nat) (fs : Nat → F4) (x y : Int) (s3 s4 s5 : ByteArray) (w : World) (hn : n ≤ 9223372036854775807) (hnil : a = none → n = 0 ∧ c = 0) (h : FsAt w a n fs) :
    Calls Try.prog 4 #[.slice a n c, .int .i64 x, .int .i64 y, .string s3, .string s4, .string s5] w fun e w' => LawPost w e w' := by
  have HN : Hid (a = none → n = 0 ∧ c = 0) := hnil
  clear hnil
  go_enter Try.func4, Try.ntmps4
  go_wp2_with fail
  refine (bytes9_any a n c fs _ _ s3 s4 s5 w h).mono ?_
  rintro e w1 ⟨⟨bl, rfl⟩, hw1⟩
  subst w1
  cases bl
  · go_wp2_with fail
    go_ret
    exact ⟨rfl, Below.refl _ _⟩
  go_wp2_with fail
  all_goals first
    | (go_ret; exact ⟨rfl, Below.refl _ _⟩)
    | skip
  have hn1 : n ≤ 65536 := by omega
  refine (size_any a n c fs _ w (by omega) h).mono ?_
  rintro e x1 ⟨z, p, rfl, rfl⟩
  go_wp2_with fail
  all_goals first
    | (go_ret; exact ⟨rfl, below_drew (Below.refl _ _) _⟩)
    | skip
  have hx0 : 0 ≤ x := by omega
  obtain ⟨K, rfl⟩ := Int.eq_ofNat_of_zero_le hx0
  have hKn : K ≤ n := by omega
  clear hx0
  have hA : Below w.heap.size w (w.drewN p) := below_drew (Below.refl _ _) p
  have hd : FsAt (w.drewN p) a n fs := h.drewN p
  generalize w.drewN p = y0 at *
  refine (conv_any a n c fs y0 (by omega) HN.out hd).mono ?_
  rintro e y1 hpost
  replace hA := below_step hA hpost.below
  obtain ⟨v, rfl, hcall⟩ := conv_then hpost (by omega)
  clear hpost hd
  go_wp2_with fail
  refine hcall.mono ?_
  clear hcall
  rintro e y2 ⟨rfl, hb⟩
  replace hA := below_step hA hb
  clear hb
  obtain ⟨X, hX⟩ : ∃ X : F4, X = ⟨y, s3, s4, s5⟩ := ⟨_, rfl⟩
  have HPA : Hid (conf (put fs X K) (n + 1) = (conf fs n && !(isErr s3))) := by
    have := conf_put fs X K (n - K)
    rw [show K + 1 + (n - K) = n + 1 by omega, show K + (n - K) = n by omega, hX] at this
    rw [hX]; exact this
  generalize conf fs n = b0 at HPA ⊢
  have hmk := make22 0 (n + 1) (by omega) (by omega) 0 ((n : Int) + 1) rfl (by omega)
  go_wp2_with fail
  have hr0 := row_first y2 (n + 1) 29 (put fs X K)
  have hgw : w.heap.size ≤ y2.heap.size := hA.size
  replace hA := below_step hA (below_alloc y2 (.cells (rows0 (n + 1)) 29))
  generalize y2.alloc (.cells (rows0 (n + 1)) 29) = y3 at *
  generalize y2.heap.size = G at *
  clear hmk
  go_loopg [14, 15] K (fun q u i wr => ∃ k : Nat, k + q = K ∧ i = .int .i64 k ∧ u = .slice (some ⟨G, 0, none⟩) k (n + 1) ∧ RowF wr G (n + 1) 29 (fun i => i < k) (put fs X K) ∧ Below w.heap.size w wr)
  case atStart => exact ⟨0, by omega, rfl, rfl, hr0.mono (fun i _ h => absurd h (by omega)), hA⟩
  case round =>
    clear hr0 hA
    obtain ⟨k, hk, rfl, rfl, hr, hA⟩ := hrel
    by_cases hlt : k < K
    · obtain ⟨b, o, hx, hc⟩ := h.grow hA (Nat.le_refl _) (by omega)
      cases hx
      obtain ⟨c0, c1, c2, c3⟩ := hc k (by omega)
      clear hc
      have hr1 := hr.grow (Below.heap_alloc wr (.cells #[.int .i64 (fs k).line, .string (fs k).sev, .string (fs k).rule, .string (fs k).text] 29) G hr.lt)
      have hr2 := (hr1.put k (by omega) (fs k)).mono (Q := fun i => i < k + 1) (gs := put fs X K) (fun i hi hq => ⟨by omega, by
        by_cases e : i = k
        · simp [e, put, hlt]
        · simp [e]⟩)
      have hA3 := b4 (l := k) (below_step hA (below_alloc wr (.cells #[.int .i64 (fs k).line, .string (fs k).sev, .string (fs k).rule, .string (fs k).text] 29))) hgw (fs k)
      obtain ⟨⟨v0, q0⟩, f0⟩ := hr1.there (k * 4) (by omega)
      obtain ⟨⟨v1, q1⟩, f1⟩ := hr1.there (k * 4 + 1) (by omega)
      obtain ⟨⟨v2, q2⟩, f2⟩ := hr1.there (k * 4 + 2) (by omega)
      obtain ⟨⟨v3, q3⟩, f3⟩ := hr1.there (k * 4 + 3) (by omega)
      clear hr1 hr hA
      go_wp2_with fail
      go_roundg (K - (k + 1))
      case measure => omega
      case rel => exact ⟨k + 1, by omega, by go_num, rfl, hr2, hA3⟩
    · obtain rfl : k = K := by omega
      have hr1 := hr.grow (Below.heap_alloc wr (.cells #[.int .i64 y, .string s3, .string s4, .string s5] 29) G hr.lt)
      have hr2 := (hr1.put k (by omega) ⟨y, s3, s4, s5⟩).mono (Q := fun i => i < k + 1) (gs := put fs X k) (fun i hi hq => ⟨by omega, by
        by_cases e : i = k
        · simp [e, put, hX]
        · simp [e]⟩)
      have hA3 := b4 (l := k) (below_step hA (below_alloc wr (.cells #[.int .i64 y, .string s3, .string s4, .string s5] 29))) hgw ⟨y, s3, s4, s5⟩
      obtain ⟨⟨v0, q0⟩, f0⟩ := hr1.there (k * 4) (by omega)
      obtain ⟨⟨v1, q1⟩, f1⟩ := hr1.there (k * 4 + 1) (by omega)
      obtain ⟨⟨v2, q2⟩, f2⟩ := hr1.there (k * 4 + 2) (by omega)
      obtain ⟨⟨v3, q3⟩, f3⟩ := hr1.there (k * 4 + 3) (by omega)
      clear hr1 hr hA
      clear hX
      go_wp2_with fail
      clear q0 q1 q2 q3 f0 f1 f2 f3
      generalize (((((wr.alloc (.cells #[.int .i64 y, .string s3, .string s4, .string s5] 29)).setCell ⟨G, k * 4, none⟩ (.int .i64 y)).setCell ⟨G, k * 4 + 1, none⟩ (.string s3)).setCell ⟨G, k * 4 + 2, none⟩ (.string s4)).setCell ⟨G, k * 4 + 3, none⟩ (.string s5)) = y4 at *
      go_loopg [14, 16] (n - k) (fun q u i wr => ∃ l : Nat, l + q = n ∧ k ≤ l ∧ i = .int .i64 l ∧ u = .slice (some ⟨G, 0, none⟩) (l + 1) (n + 1) ∧ RowF wr G (n + 1) 29 (fun i => i < l + 1) (put fs X k) ∧ Below w.heap.size w wr)
      case atStart => exact ⟨k, by omega, Nat.le_refl _, rfl, rfl, hr2, hA3⟩
      case round =>
        clear hr2 hA3
        obtain ⟨l, hl, hkl, rfl, rfl, hr, hA⟩ := hrel
        by_cases hlt2 : l < n
        · obtain ⟨b, o, hx, hc⟩ := h.grow hA (Nat.le_refl _) (by omega)
          cases hx
          obtain ⟨c0, c1, c2, c3⟩ := hc l (by omega)
          clear hc
          have hr1 := hr.grow (Below.heap_alloc wr (.cells #[.int .i64 (fs l).line, .string (fs l).sev, .string (fs l).rule, .string (fs l).text] 29) G hr.lt)
          have hr2 := (hr1.put (l + 1) (by omega) (fs l)).mono (Q := fun i => i < l + 1 + 1) (gs := put fs X k) (fun i hi hq => ⟨by omega, by
            by_cases e : i = l + 1
            · simp [e, put, show ¬ l + 1 < k by omega, show ¬ l + 1 = k by omega]
            · simp [e]⟩)
          have hA3 := b4 (l := l + 1) (below_step hA (below_alloc wr (.cells #[.int .i64 (fs l).line, .string (fs l).sev, .string (fs l).rule, .string (fs l).text] 29))) hgw (fs l)
          obtain ⟨⟨v0, q0⟩, f0⟩ := hr1.there ((l + 1) * 4) (by omega)
          obtain ⟨⟨v1, q1⟩, f1⟩ := hr1.there ((l + 1) * 4 + 1) (by omega)
          obtain ⟨⟨v2, q2⟩, f2⟩ := hr1.there ((l + 1) * 4 + 2) (by omega)
          obtain ⟨⟨v3, q3⟩, f3⟩ := hr1.there ((l + 1) * 4 + 3) (by omega)
          clear hr1 hr hA
          go_wp2_with fail
          go_roundg (n - (l + 1))
          case measure => omega
          case rel => exact ⟨l + 1, by omega, by omega, by go_num, rfl, hr2, hA3⟩
        · obtain rfl : l = n := by omega
          have hF := hr.fs (m := l + 1) (Nat.le_refl _) (fun i hi => hi)
          clear hr
          go_wp2_with fail
          refine (conv_any (some ⟨G, 0, none⟩) (l + 1) (l + 1) (put fs X k) wr (by omega) (fun h => by cases h) hF).mono ?_
          rintro e u1 hpost
          replace hA := below_step hA hpost.below
          obtain ⟨v', rfl, hcall⟩ := conv_then hpost (by omega)
          clear hpost hF
          go_wp2_with fail
          refine hcall.mono ?_
          clear hcall
          rintro e u2 ⟨rfl, hb⟩
          replace hA := below_step hA hb
          clear hb
          generalize conf (put fs X k) (l + 1) = ba at HPA ⊢
          have hmk := make22 l l (Nat.le_refl _) (by omega) l l rfl rfl
          go_wp2_with fail
          have hr0 := row_first u2 l 29 (fun i => ⟨(fs i).line, s3, (fs i).rule, (fs i).text⟩)
          have hgw2 : w.heap.size ≤ u2.heap.size := hA.size
          replace hA := below_step hA (below_alloc u2 (.cells (rows0 l) 29))
          generalize u2.alloc (.cells (rows0 l) 29) = u3 at *
          generalize u2.heap.size = U at *
          clear hmk hgw
          go_loopg [19] l (fun q i wr => ∃ j : Nat, j + q = l ∧ i = .int .i64 j ∧ RowF wr U l 29 (fun i => i < j) (fun i => ⟨(fs i).line, s3, (fs i).rule, (fs i).text⟩) ∧ Below w.heap.size w wr)
          case atStart => exact ⟨0, by omega, rfl, hr0.mono (fun i _ h => absurd h (by omega)), hA⟩
          case round =>
            clear hr0 hA
            obtain ⟨j, hj, rfl, hr, hA⟩ := hrel
            by_cases hjl : j < l
            · obtain ⟨b, o, hx, hc⟩ := h.grow hA (Nat.le_refl _) (by omega)
              cases hx
              obtain ⟨c0, c1, c2, c3⟩ := hc j (by omega)
              clear hc
              have hr2 := row_drew ((hr.put j hjl ⟨(fs j).line, s3, (fs j).rule, (fs j).text⟩).mono (Q := fun i => i < j + 1) (gs := fun i => ⟨(fs i).line, s3, (fs i).rule, (fs i).text⟩) (fun i hi hq => ⟨by omega, by by_cases e : i = j <;> simp [e]⟩))
              have hA3 := below_drew1 (b4 (l := j) hA hgw2 ⟨(fs j).line, s3, (fs j).rule, (fs j).text⟩)
              obtain ⟨⟨v0, q0⟩, f0⟩ := hr.there (j * 4) (by omega)
              obtain ⟨⟨v1, q1⟩, f1⟩ := hr.there (j * 4 + 1) (by omega)
              obtain ⟨⟨v2, q2⟩, f2⟩ := hr.there (j * 4 + 2) (by omega)
              obtain ⟨⟨v3, q3⟩, f3⟩ := hr.there (j * 4 + 3) (by omega)
              have i1 : (0 : Int) ≤ (j : Int) := by omega
              have i2 : (j : Int) < (l : Int) := by omega
              go_wp2_with fail
              go_region
              go_wp2_with fail
              go_roundg (l - (j + 1))
              case measure => omega
              case rel => exact ⟨j + 1, by omega, by go_num, hr2, hA3⟩
            · obtain rfl : j = l := by omega
              have hF := hr.fs (m := j) (Nat.le_refl _) (fun i hi => hi)
              clear hr
              go_wp2_with fail
              refine (conv_any (some ⟨U, 0, none⟩) j j (fun i => ⟨(fs i).line, s3, (fs i).rule, (fs i).text⟩) wr (by omega) (fun h => by cases h) hF).mono ?_
              rintro e t1 hpost
              replace hA := below_step hA hpost.below
              obtain ⟨v'', rfl, hcall⟩ := conv_then hpost (by omega)
              clear hpost hF
              go_wp2_with fail
              refine hcall.mono ?_
              clear hcall
              rintro e t2 ⟨rfl, hb⟩
              replace hA := below_step hA hb
              clear hb
              have hu := conf_uni (fun i => ⟨(fs i).line, s3, (fs i).rule, (fs i).text⟩) s3 j (fun i hi => rfl)
              generalize conf (fun i => (⟨(fs i).line, s3, (fs i).rule, (fs i).text⟩ : F4)) j = bu at hu ⊢
              have hp := HPA.out
              clear HPA
              unfold isErr at hu hp
              cases her : (s3.toList == [101, 114, 114, 111, 114])
              all_goals rw [her] at hu hp
              all_goals cases b0
              all_goals by_cases hj0 : j = 0
              all_goals simp [hj0] at hu hp
              all_goals subst hu
              all_goals subst hp
              all_goals try subst hj0
              all_goals
                go_wp2_with fail
                go_ret
                first
                  | exact ⟨rfl, hA⟩
                  | exact ⟨ret_bool (beq_cast j), hA⟩
end Go.Proofs.Qxb6630883a
