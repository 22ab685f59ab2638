import Derived.Test.Qxb6630788aAll
namespace Go.Proofs.Qxb6630788a
open Go.RowKit

/-- At the head of a round of the last loop: the variable f stands behind the first k fields. -/
structure ReadAt (w x : World) (g C fb n k : Nat) (fl : Nat → List Int) : Prop where
  data : DataAt x g C (cat fl n)
  var : ∃ B : Addr, x.heap[fb]? = some (.cells #[.slice (some B) ((cat fl n).length - (cat fl k).length) (C - (cat fl k).length)] 26 (0, 0)) ∧ (0 < n → B = ⟨g, (cat fl k).length, none⟩)
  below : Below w.heap.size w x
  new : w.heap.size ≤ fb
  ne : fb ≠ g

theorem ReadAt.draw {w x : World} {g C fb n k : Nat} {fl : Nat → List Int} (h : ReadAt w x g C fb n k fl) (m : Nat) : ReadAt w (x.drewN m) g C fb n k fl :=
  ⟨h.data.grow rfl, h.var, ⟨h.below.os, h.below.tape, h.below.output, h.below.size, h.below.block⟩, h.new, h.ne⟩
theorem read_first {w x : World} {g C n : Nat} {fl : Nat → List Int} (hd : DataAt x g C (cat fl n)) (hb : Below w.heap.size w x) :
    ReadAt w (x.alloc (Obj.cells #[Value.slice (some { block := g, off := 0 }) (cat fl n).length C] 26)) g C x.heap.size n 0 fl :=
  have hg := hd.lt
  ⟨hd.grow (Below.heap_alloc _ _ _ hg), ⟨⟨g, 0, none⟩, by simpa [cat] using Go.heap_alloc_new x (Obj.cells #[Value.slice (some { block := g, off := 0 }) (cat fl n).length C] 26), fun _ => rfl⟩, hb.alloc hb.size _, hb.size, by omega⟩
/-- One field is read. -/
theorem read_next {w x : World} {g C fb n k : Nat} {fl : Nat → List Int} (h : ReadAt w x g C fb n k fl) (hk : k < n) (hl : (fl k).length ≤ 1048576) (hC : C = tot fl n + 10 * n) (hC2 : C ≤ 4294967296) :
    Calls Try.prog 7 #[.pointer (some ⟨fb, 0, none⟩)] x fun e x' => ∃ A, e = .returned (.slice (some A) (fl k).length (fl k).length) ∧ BytesAt x' (some A) (fl k) ∧ ReadAt w x' g C fb n (k + 1) fl := by
  obtain ⟨hd, ⟨B, hv, hB⟩, hb, hnew, hne⟩ := h
  obtain ⟨rest, hs⟩ := cat_split fl k (n - (k + 1))
  rw [show k + 1 + (n - (k + 1)) = n by omega] at hs
  have hL : (cat fl n).length = (cat fl k).length + ((uv (fl k).length).length + (fl k).length) + rest.length := by rw [hs]; simp only [List.length_append]
  have hle := cat_le fl n
  obtain rfl := hB (by omega)
  refine (next_any fb g (cat fl k).length ((cat fl n).length - (cat fl k).length) (C - (cat fl k).length) (fl k).length x (by omega) (by omega) (by omega) (by omega) (by rw [cell_of_row _ _ _ _ _ _ hv]; rfl) (frozen_of_row _ _ _ _ _ hv) (fun j hj => ?_)).mono ?_
  · have := hd.bytes (cat fl k) (uv (fl k).length) (fl k ++ rest) (by rw [hs]; simp) ⟨g, (cat fl k).length, none⟩ (fun _ => rfl) (by omega)
    obtain ⟨b, o, he, hc⟩ := this
    cases he
    exact hc j hj
  · rintro e x' ⟨A, B, rfl, hA, hx, hB2⟩
    have hd5 : DataAt x' g C (cat fl n) := by rw [hx]; exact hd.grow (heap_setCell_other _ _ _ _ (Ne.symm hne))
    refine ⟨A, rfl, hd5.bytes (cat fl k ++ uv (fl k).length) (fl k) rest (by rw [hs]; simp) A (fun h => by rw [hA h]; simp), hd5, ⟨B, ?_, fun _ => ?_⟩, by rw [hx]; exact hb.setCell hnew _, hnew, hne⟩
    · rw [hx, heap_setCell_same _ _ _ _ _ _ hv]
      have e1 : (cat fl n).length - (cat fl k).length - ((uv (fl k).length).length + (fl k).length) = (cat fl n).length - (cat fl (k + 1)).length := by simp only [cat, List.length_append]; omega
      have e2 : C - (cat fl k).length - ((uv (fl k).length).length + (fl k).length) = C - (cat fl (k + 1)).length := by simp only [cat, List.length_append]; omega
      rw [e1, e2]
      rfl
    · rw [hB2 (by omega)]
      simp only [cat, List.length_append]

set_option maxRecDepth 100000 in
set_option maxHeartbeats 2000000 in
theorem all_main (a : Option Addr) (n c : Nat) (fa : Nat → Option Addr) (fl : Nat → List Int) (fc : Nat → Nat) (w : World) (hn : n ≤ 65536) (hf : FieldsAt w a n fa fl fc) :
    Calls Try.prog 4 #[.slice a n c] w fun e w' => LawPost w e w' := by
  go_enter Try.func4, Try.ntmps4
  go_wp2_with fail
  refine (bytes9 a n c fa fl fc w (by omega) hf).mono ?_
  rintro e w1 ⟨bl, rfl, hw1, hlen⟩
  subst w1
  cases bl
  case false =>
    go_wp2_with fail
    go_ret
    exact lawPost_same w
  case true =>
    have HLN : Hid (∀ i, i < n → (fl i).length ≤ 1048576) := hlen rfl
    clear hlen
    go_wp2_with fail
    go_loop [3, 4] (fun z i => ∃ k : Nat, k ≤ n ∧ i = .int .i64 k ∧ z = .int .i64 (tot fl k) ∧ tot fl k ≤ 1048576) (fun _ i => n - (intOf i).toNat)
    case atStart => exact ⟨0, Nat.zero_le _, rfl, rfl, by simp [tot]⟩
    case round =>
      obtain ⟨k, hk, rfl, rfl, hq⟩ := hrel
      by_cases hlt : k < n
      · obtain ⟨b, o, rfl, hc⟩ := hf.1 (by omega)
        have hck := hc k hlt
        have hlk := HLN.out k hlt
        clear hc
        by_cases hbig : (1048576 : Int) < (tot fl k : Int) + (24 + ((fl k).length : Int))
        · go_wp2_with fail
          go_ret
          exact lawPost_same w
        · go_wp2_with fail
          go_round
          case rel => exact ⟨k + 1, by omega, by go_num, by rw [tot]; go_num, by rw [tot]; omega⟩
          case measure => simp [intOf]; omega
      · obtain rfl : k = n := by omega
        obtain ⟨C, hC⟩ : ∃ C, C = tot fl k + 10 * k := ⟨_, rfl⟩
        have hCi : ((tot fl k : Int) + 10 * (k : Int)) = C := by omega
        have hmk := makeB C (by omega) ((tot fl k : Int) + 10 * (k : Int)) hCi
        have HC : Hid (C = tot fl k + 10 * k) := hC
        clear hC hCi
        go_wp2_with fail
        have hfd := data_first w C
        have hb0 : Below w.heap.size w (w.alloc (.cells (zerosB C) 5)) := (Below.refl _ _).alloc (Nat.le_refl _) _
        obtain ⟨g, hg⟩ : ∃ g, g = w.heap.size := ⟨_, rfl⟩
        rw [← hg] at hfd ⊢
        have HG : Hid (g = w.heap.size) := hg
        have hgw : w.heap.size ≤ g := Nat.le_of_eq hg.symm
        clear hg hmk
        generalize w.alloc (.cells (zerosB C) 5) = W0 at *
        go_loopg [5, 6] k (fun q d i wr => ∃ j : Nat, j + q = k ∧ i = .int .i64 j ∧ d = .slice (some ⟨g, 0, none⟩) (cat fl j).length C ∧ DataAt wr g C (cat fl j) ∧ Below w.heap.size w wr)
        case atStart => exact ⟨0, by omega, rfl, rfl, hfd, hb0⟩
        case round =>
          clear hfd hb0
          obtain ⟨j, hj, rfl, rfl, hd, hb⟩ := hrel
          by_cases hlt2 : j < k
          · obtain ⟨b, o, rfl, hc⟩ := hf.1 (by omega)
            have hck : wr.cell? ⟨b, o + j, none⟩ = some (.slice (fa j) (fl j).length (fc j)) := (hb.cell (block_lt_of_cell (hc j hlt2))).trans (hc j hlt2)
            have HCK : Hid (w.cell? ⟨b, o + j, none⟩ = some (.slice (fa j) (fl j).length (fc j))) := hc j hlt2
            have hlj := HLN.out j hlt2
            have hroom : (cat fl j).length + (uv (fl j).length).length + (fl j).length ≤ C := by
              have h1 := cat_le fl (j + 1)
              have h2 := tot_mono fl (j + 1) (k - (j + 1))
              rw [show j + 1 + (k - (j + 1)) = k by omega] at h2
              simp only [cat, List.length_append] at h1
              have := HC.out
              omega
            have hcap : C ≤ 4294967296 := by have := HC.out; omega
            clear hc
            go_wp2_with fail
            refine (put_any g C (cat fl j) (fl j).length wr hd (by omega) (by omega) hcap).mono ?_
            rintro e W1 ⟨rfl, hd1, ht1⟩
            have hb1 : Below w.heap.size w W1 := Turn.below hb ht1 (by simp; exact hgw)
            have hck1 : W1.cell? ⟨b, o + j, none⟩ = some (.slice (fa j) (fl j).length (fc j)) := (hb1.cell (block_lt_of_cell HCK.out)).trans HCK.out
            have hp1 : BytesAt W1 (fa j) (fl j) := (hf.2 j hlt2).1.grow hb1 (Nat.le_refl _)
            have hm1 : (cat fl j ++ uv (fl j).length).length + (fl j).length ≤ C := by simp; omega
            clear ht1 hd hb hck
            have hk2 : Hid ((cat fl j).length + (uv (fl j).length).length = (cat fl j ++ uv (fl j).length).length) := by unfold Hid; simp
            go_wp2_with (at_builtin; refine wpList_append_data W1 (by rfl) (.tmp 52) (.tmp 56) (by rfl) g C (cat fl j ++ uv (fl j).length) (fl j) (fa j) (fc j) ((cat fl j).length + (uv (fl j).length).length) hk2.out (by rfl) (by rfl) hd1 hm1 hp1 ?_; intro W2 hd2 hx2; have hb2 : Below w.heap.size w W2 := Turn.below hb1 hx2 (by simp; exact hgw); clear hd1 hb1 hp1 hx2 hck1)
            go_roundg (k - (j + 1))
            case measure => omega
            case rel => exact ⟨j + 1, by omega, by go_num, by simp [cat]; omega, by rw [cat, ← List.append_assoc]; exact hd2, hb2⟩
          · obtain rfl : j = k := by omega
            go_wp2_with fail
            have hr := read_first hd hb
            generalize wr.alloc (Obj.cells #[Value.slice (some { block := g, off := 0 }) (cat fl j).length C] 26) = X at *
            generalize wr.heap.size = fb at *
            clear hd hb
            have hcap : C ≤ 4294967296 := by have := HC.out; omega
            go_loopg [8, 9] j (fun q i _ wx => ∃ k : Nat, k + q = j ∧ i = .int .i64 k ∧ ReadAt w wx g C fb j k fl)
            case atStart => exact ⟨0, by omega, rfl, hr⟩
            case round =>
              clear hr
              obtain ⟨k, hkj, rfl, hr⟩ := hrel
              by_cases hlt3 : k < j
              · obtain ⟨b, o, rfl, hc⟩ := hf.1 (by omega)
                have HCK : Hid (w.cell? ⟨b, o + k, none⟩ = some (.slice (fa k) (fl k).length (fc k))) := hc k hlt3
                have hlk := HLN.out k hlt3
                clear hc
                go_wp2_with fail
                refine (read_next hr hlt3 hlk HC.out hcap).mono ?_
                rintro e x1 ⟨A, rfl, hA, hr1⟩
                have hck1 : x1.cell? ⟨b, o + k, none⟩ = some (.slice (fa k) (fl k).length (fc k)) := (hr1.below.cell (block_lt_of_cell HCK.out)).trans HCK.out
                have hp1 : BytesAt x1 (fa k) (fl k) := (hf.2 k hlt3).1.grow hr1.below (Nat.le_refl _)
                clear hr
                go_wp2_with fail
                refine (same_any (some A) (fa k) (fl k).length (fl k).length (fc k) (fun i => (fl k).getD i 0) x1 (by omega) hA hp1).mono ?_
                rintro e x2 ⟨rfl, m, hx2⟩
                subst x2
                go_wp2_with fail
                go_roundg (j - (k + 1))
                case measure => omega
                case rel => exact ⟨k + 1, by omega, by go_num, hr1.draw m⟩
              · obtain rfl : k = j := by omega
                obtain ⟨B, hv, _⟩ := hr.var
                have hcv : wr.cell? ⟨fb, 0, none⟩ = some (.slice (some B) 0 (C - (cat fl k).length)) := by rw [cell_of_row _ _ _ _ _ _ hv, Nat.sub_self]; rfl
                have hbz := hr.below
                clear hr hv
                go_wp2_with fail
                go_ret
                exact ⟨rfl, hbz⟩
end Go.Proofs.Qxb6630788a
