import Derived.Test.Qxb6630883aConv
import Derived.Test.Qxb6630883aByt
import Derived.ArgAppend
namespace Go.Proofs.Qxb6630883a
open Go.RowKit

theorem FsAt.short {w : World} {a : Option Addr} {n m : Nat} {fs : Nat → F4} (h : FsAt w a n fs) (hm : m ≤ n) : FsAt w a m fs := by
  intro hp
  obtain ⟨b, o, e, hc⟩ := h (by omega)
  exact ⟨b, o, e, fun i hi => hc i (by omega)⟩
theorem FsAt.drop {w : World} {g n k : Nat} {fs : Nat → F4} (h : FsAt w (some ⟨g, 0, none⟩) n fs) (hk : k ≤ n) : FsAt w (some ⟨g, k * 4, none⟩) (n - k) (fun i => fs (k + i)) := by
  intro hp
  obtain ⟨b, o, e, hc⟩ := h (by omega)
  cases e
  refine ⟨g, k * 4, rfl, fun i hi => ?_⟩
  have := hc (k + i) (by omega)
  rw [show 0 + (k + i) * 4 = k * 4 + i * 4 by omega] at this
  exact this
structure LawPost (w : World) (e : Ending) (w' : World) : Prop where
  ret : e = .returned (.bool true)
  below : Below w.heap.size w w'

set_option maxRecDepth 100000 in
set_option maxHeartbeats 4000000 in
theorem law3_any (a : Option Addr) (n c : Nat) (fs : Nat → F4) (x : Int) (w : World) (hn : n ≤ 9223372036854775807) (hnil : a = none → n = 0 ∧ c = 0) (h : FsAt w a n fs) :
    Calls Try.prog 3 #[.slice a n c, .int .i64 x] w fun e w' => LawPost w e w' := by
  have HN : Hid (a = none → n = 0 ∧ c = 0) := hnil
  clear hnil
  go_enter Try.func3, Try.ntmps3
  go_wp2_with fail
  refine (bytes5_any a n c fs _ w h).mono ?_
  rintro e w1 ⟨⟨bl, rfl⟩, hw1⟩
  subst w1
  cases bl
  · go_wp2_with fail
    go_ret
    exact ⟨rfl, Below.refl _ _⟩
  go_wp2_with fail
  all_goals first
    | (go_ret; exact ⟨rfl, Below.refl _ _⟩)
    | skip
  have hn1 : n ≤ 65536 := by omega
  refine (size_any a n c fs _ w (by omega) h).mono ?_
  rintro e x1 ⟨z, p, rfl, rfl⟩
  go_wp2_with fail
  all_goals first
    | (go_ret; exact ⟨rfl, below_drew (Below.refl _ _) _⟩)
    | skip
  have hx0 : 0 ≤ x := by omega
  obtain ⟨K, rfl⟩ := Int.eq_ofNat_of_zero_le hx0
  have hKn : K ≤ n := by omega
  clear hx0
  have hA : Below w.heap.size w (w.drewN p) := below_drew (Below.refl _ _) p
  have hd : FsAt (w.drewN p) a n fs := h.drewN p
  generalize w.drewN p = y0 at *
  refine (conv_any a n c fs y0 (by omega) HN.out hd).mono ?_
  rintro e y1 ⟨hex, hb⟩
  clear hd
  replace hA := below_step hA hb
  clear hb
  rcases hex with ⟨rfl, hn0⟩ | ⟨g, rfl, k1⟩
  case' inl =>
    obtain rfl : K = 0 := by omega
    clear hn0
    have hmk := make22 0 n (by omega) (by omega) 0 n rfl rfl
    go_wp2_with fail
    refine (conf_any none 0 0 fs y1 (by omega) (fun h => absurd h (by omega))).mono ?_
    rintro e y2 ⟨rfl, hb⟩
    replace hA := below_step hA hb
    clear hb
    go_wp2_with fail
    refine (conf_any none 0 0 fs y2 (by omega) (fun h => absurd h (by omega))).mono ?_
    rintro e y3 ⟨rfl, hb⟩
    replace hA := below_step hA hb
    clear hb
    go_wp2_with fail
    refine (conf_any none 0 0 fs y3 (by omega) (fun h => absurd h (by omega))).mono ?_
    rintro e y4 ⟨rfl, hb⟩
    replace hA := below_step hA hb
    have HB : Hid (conf fs 0 = (conf fs 0 && conf fs 0)) := by unfold Hid; simp
    generalize hq : conf fs 0 = bw at HB ⊢
    obtain ⟨bl, hbl⟩ : ∃ b, b = bw := ⟨_, rfl⟩
    obtain ⟨br, hbr⟩ : ∃ b, b = bw := ⟨_, rfl⟩
    clear hb hq hbl hbr
  case' inr =>
    have hmk := make22 0 n (by omega) (by omega) 0 n rfl rfl
    go_wp2_with fail
    refine (conf_any _ n n fs y1 (by omega) k1).mono ?_
    rintro e y2 ⟨rfl, hb⟩
    replace hA := below_step hA hb
    replace k1 := k1.grow hb (Nat.le_refl _)
    clear hb
    go_wp2_with fail
    refine (conf_any _ K n fs y2 (by omega) (k1.short hKn)).mono ?_
    rintro e y3 ⟨rfl, hb⟩
    replace hA := below_step hA hb
    replace k1 := k1.grow hb (Nat.le_refl _)
    clear hb
    by_cases hKe : K = n
    case' pos =>
      have hKe2 := hKe.symm
      subst hKe2
      go_wp2_with fail
      refine (conf_any _ 0 _ fs y3 (by omega) (fun h => absurd h (by omega))).mono ?_
      rintro e y4 ⟨rfl, hb⟩
      replace hA := below_step hA hb
      have HB : Hid (conf fs n = (conf fs n && conf fs 0)) := by unfold Hid; simp [conf]
      generalize hq2 : conf fs 0 = br at HB ⊢
      generalize hq0 : conf fs n = bw at HB ⊢
      obtain ⟨bl, hbl⟩ : ∃ b, b = bw := ⟨_, rfl⟩
      clear hb hq0 hq2 hbl k1
    case' neg =>
      have hlt : K < n := by omega
      go_wp2_with fail
      refine (conf_any _ (n - K) _ (fun i => fs (K + i)) y3 (by omega) (k1.drop hKn)).mono ?_
      rintro e y4 ⟨rfl, hb⟩
      replace hA := below_step hA hb
      have HB : Hid (conf fs n = (conf fs K && conf (fun i => fs (K + i)) (n - K))) := by
        have := conf_split fs K (n - K)
        rwa [show K + (n - K) = n by omega] at this
      generalize hq0 : conf fs n = bw at HB ⊢
      generalize hq1 : conf fs K = bl at HB ⊢
      generalize hq2 : conf (fun i => fs (K + i)) (n - K) = br at HB ⊢
      clear hb hq0 hq1 hq2 k1 hKe hlt
  all_goals
    go_wp2_with fail
    have hr0 := row_first y4 n 29 fs
    have hgw : w.heap.size ≤ y4.heap.size := hA.size
    replace hA := below_step hA (below_alloc y4 (.cells (rows0 n) 29))
    generalize y4.alloc (.cells (rows0 n) 29) = y5 at *
    generalize y4.heap.size = G at *
    clear hmk
    go_loopg [9, 10] n (fun q v i wr => ∃ k l : Nat, k + q = n ∧ l ≤ k ∧ i = .int .i64 k ∧ v = .slice (some ⟨G, 0, none⟩) l n ∧ (∃ ks : Nat → F4, RowF wr G n 29 (fun i => i < l) ks ∧ Hid (∀ i, i < l → isErr (ks i).sev = false)) ∧ Below w.heap.size w wr)
    case atStart => exact ⟨0, 0, by omega, by omega, rfl, rfl, ⟨fs, hr0.mono (fun i _ h => absurd h (by omega)), fun i hi => absurd hi (by omega)⟩, hA⟩
    case round =>
      clear hr0 hA
      obtain ⟨k, l, hk, hlk, rfl, rfl, ⟨ks, hr, HE⟩, hA⟩ := hrel
      by_cases hlt : k < n
      · obtain ⟨b, o, hx, hc⟩ := h.grow hA (Nat.le_refl _) (by omega)
        cases hx
        obtain ⟨c0, c1, c2, c3⟩ := hc k hlt
        clear hc
        cases he : ((fs k).sev.toList == [101, 114, 114, 111, 114])
        · have hr1 := hr.grow (Below.heap_alloc wr (.cells #[.int .i64 (fs k).line, .string (fs k).sev, .string (fs k).rule, .string (fs k).text] 29) G hr.lt)
          have hr2 := hr1.put l (by omega) (fs k)
          have hA2 := below_step hA (below_alloc wr (.cells #[.int .i64 (fs k).line, .string (fs k).sev, .string (fs k).rule, .string (fs k).text] 29))
          have hA3 := (((hA2.setCell (p := ⟨G, l * 4, none⟩) hgw (.int .i64 (fs k).line)).setCell (p := ⟨G, l * 4 + 1, none⟩) hgw (.string (fs k).sev)).setCell (p := ⟨G, l * 4 + 2, none⟩) hgw (.string (fs k).rule)).setCell (p := ⟨G, l * 4 + 3, none⟩) hgw (.string (fs k).text)
          obtain ⟨⟨v0, q0⟩, f0⟩ := hr1.there (l * 4) (by omega)
          obtain ⟨⟨v1, q1⟩, f1⟩ := hr1.there (l * 4 + 1) (by omega)
          obtain ⟨⟨v2, q2⟩, f2⟩ := hr1.there (l * 4 + 2) (by omega)
          obtain ⟨⟨v3, q3⟩, f3⟩ := hr1.there (l * 4 + 3) (by omega)
          clear hr1 hA2 hr hA
          have HE2 : Hid (∀ i, i < l + 1 → isErr ((fun i => if i = l then fs k else ks i) i).sev = false) := fun i hi => by
            by_cases e : i = l
            · simp only [e, if_true]; exact he
            · simp only [e, if_false]; exact HE.out i (by omega)
          go_wp2_with fail
          go_roundg (n - (k + 1))
          case measure => omega
          case rel => exact ⟨k + 1, l + 1, by omega, by omega, by go_num, rfl, ⟨_, hr2.mono (Q := fun i => i < l + 1) (fun i hi hq => ⟨by omega, rfl⟩), HE2⟩, hA3⟩
        · go_wp2_with fail
          go_roundg (n - (k + 1))
          case measure => omega
          case rel => exact ⟨k + 1, l, by omega, by omega, by go_num, rfl, ⟨ks, hr, HE⟩, hA⟩
      · obtain rfl : k = n := by omega
        have hcf : conf ks l = true := conf_true l HE.out
        have hF := hr.fs (m := l) (by omega) (fun i hi => hi)
        clear HE hr
        go_wp2_with fail
        refine (conv_any (some ⟨G, 0, none⟩) l k ks wr (by omega) (fun h => by cases h) hF).mono ?_
        rintro e u1 ⟨hex, hb⟩
        replace hA := below_step hA hb
        clear hb hF
        rcases hex with ⟨rfl, hl0⟩ | ⟨g2, rfl, k2⟩
        case' inl =>
          clear hcf
          go_wp2_with fail
          refine (conf_any none 0 0 ks u1 (by omega) (fun h => absurd h (by omega))).mono ?_
          rintro e u2 ⟨he, hb⟩
          replace he : e = .returned (.bool true) := he
        case' inr =>
          go_wp2_with fail
          refine (conf_any _ l l ks u1 (by omega) k2).mono ?_
          rintro e u2 ⟨he, hb⟩
          rw [hcf] at he
        all_goals
          subst he
          replace hA := below_step hA hb
          clear hb
          have hB := HB.out
          clear HB
          cases bw
          all_goals cases bl
          all_goals cases br
          all_goals first
            | (exact absurd hB (by decide))
            | (clear hB
               go_wp2_with fail
               go_ret
               exact ⟨rfl, hA⟩)
end Go.Proofs.Qxb6630883a
