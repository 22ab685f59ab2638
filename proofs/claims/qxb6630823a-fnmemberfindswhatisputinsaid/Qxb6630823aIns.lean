import Derived.Test.Qxb6630823aConv
namespace Go.Proofs.Qxb6630823a
open Go.RowKit

theorem below_drewN {b : Nat} {w w' : World} (h : Below b w w') (m : Nat) : Below b w (w'.drewN m) := h.trans ⟨rfl, rfl, rfl, Nat.le_refl _, fun _ _ => rfl⟩
structure InsPost (n : Nat) (ms : Nat → M3) (nm : M3) (w : World) (e : Ending) (w' : World) : Prop where
  ex : ∃ g c k, e = .returned (.slice (some ⟨g, 0, none⟩) (n + 1) c) ∧ w.heap.size ≤ g ∧ MemsAt w' (some ⟨g, 0, none⟩) (n + 1) (ins ms nm k) ∧ k ≤ n ∧ (∀ i, i < k → ltS (ms i).id nm.id = true) ∧ (k < n → ltS (ms k).id nm.id = false)
  below : Below w.heap.size w w'

/-- The place and the box: what stands while the row is built. -/
structure InsAt (w wr : World) (nm : M3) (g n : Nat) (P : Nat → Prop) (ns : Nat → M3) : Prop where
  box : wr.heap[w.heap.size]? = some (.cells (memCells nm).toArray 25 (0, 0))
  row : RowM wr g n P ns
  below : Below w.heap.size w wr
  apart : w.heap.size < g
theorem InsAt.put {w wr : World} {nm : M3} {g n : Nat} {P Q : Nat → Prop} {ns : Nat → M3} (h : InsAt w wr nm g n P ns) (k : Nat) (hk : k < n) (m : M3) (hm : ns k = m) (hq : ∀ i, i < n → Q i → P i ∨ i = k) :
    InsAt w (((wr.setCell ⟨g, k * 3, none⟩ (.string m.id)).setCell ⟨g, k * 3 + 1, none⟩ (.string m.peer)).setCell ⟨g, k * 3 + 2, none⟩ (.string m.client)) nm g n Q ns := by
  have hg := h.apart
  refine ⟨?_, (h.row.put k hk m).mono (fun i hi hQ => ⟨hq i hi hQ, ?_⟩), ((h.below.setCell (Nat.le_of_lt hg) _).setCell (Nat.le_of_lt hg) _).setCell (Nat.le_of_lt hg) _, hg⟩
  · rw [heap_setCell_other _ _ _ _ (Nat.ne_of_lt hg), heap_setCell_other _ _ _ _ (Nat.ne_of_lt hg), heap_setCell_other _ _ _ _ (Nat.ne_of_lt hg)]
    exact h.box
  · by_cases e : i = k
    · subst e; simp [hm]
    · simp [e]
theorem InsAt.mono {w wr : World} {nm : M3} {g n : Nat} {P Q : Nat → Prop} {ns : Nat → M3} (h : InsAt w wr nm g n P ns) (hq : ∀ i, i < n → Q i → P i) : InsAt w wr nm g n Q ns :=
  ⟨h.box, h.row.mono (fun i hi hQ => ⟨hq i hi hQ, rfl⟩), h.below, h.apart⟩
theorem box_first (w : World) (nm : M3) (m : Nat) (n : Nat) (ns : Nat → M3) :
    InsAt w (((w.alloc (Obj.cells #[.string nm.id, .string nm.peer, .string nm.client] 25)).drewN m).alloc (.cells (rows0 n) 37)) nm (w.heap.size + 1) n (fun _ => False) ns := by
  refine ⟨?_, ?_, (below_drewN ((Below.refl _ _).alloc (Nat.le_refl _) _) _).alloc (by simp) _, Nat.lt_succ_self _⟩
  · rw [Below.heap_alloc _ _ _ (by simp)]
    exact Go.heap_alloc_new _ _
  · have := row_first ((w.alloc (Obj.cells #[.string nm.id, .string nm.peer, .string nm.client] 25)).drewN m) n ns
    simpa using this

set_option maxRecDepth 100000 in
set_option maxHeartbeats 2000000 in
theorem insert_any (a : Option Addr) (n c : Nat) (ms : Nat → M3) (nm : M3) (w : World) (hn : n ≤ 65536) (h : MemsAt w a n ms) :
    Calls Try.prog 10 #[.slice a n c, memV nm] w fun e w' => InsPost n ms nm w e w' := by
  have hmk := make32 (n + 1) (by omega) ((n : Int) + 1) (by omega)
  unfold memV
  go_enter Try.func10, Try.ntmps10
  go_wp2
  have hb1 : Below w.heap.size w (w.alloc (Obj.cells #[.string nm.id, .string nm.peer, .string nm.client] 25)) := (Below.refl _ _).alloc (Nat.le_refl _) _
  have hw1 : (w.alloc (Obj.cells #[.string nm.id, .string nm.peer, .string nm.client] 25)).cell? ⟨w.heap.size, 0, none⟩ = some (.string nm.id) := by
    rw [cell_of_row _ _ _ _ _ _ (Go.heap_alloc_new _ _)]; rfl
  have hfst := fun m ns => box_first w nm m (n + 1) ns
  have HS1 : Hid ((w.alloc (Obj.cells #[.string nm.id, .string nm.peer, .string nm.client] 25)).heap.size = w.heap.size + 1) := by unfold Hid; simp
  generalize w.alloc (Obj.cells #[.string nm.id, .string nm.peer, .string nm.client] 25) = W1 at *
  have HFST : Hid (∀ m ns, InsAt w ((W1.drewN m).alloc (.cells (rows0 (n + 1)) 37)) nm (w.heap.size + 1) (n + 1) (fun _ => False) ns) := hfst
  have hS1 : W1.heap.size = w.heap.size + 1 := HS1
  clear hfst
  go_loopg [5] n (fun q i wr => ∃ k : Nat, k + q = n ∧ i = .int .i64 k ∧ (∃ m, wr = W1.drewN m) ∧ Hid (∀ j, j < k → ltS (ms j).id nm.id = true))
  case atStart => exact ⟨0, by omega, rfl, ⟨0, rfl⟩, fun j hj => absurd hj (by omega)⟩
  case round =>
    obtain ⟨k, hk, rfl, ⟨m, rfl⟩, HL⟩ := hrel
    by_cases hlt : k < n ∧ ltS (ms k).id nm.id = true
    · obtain ⟨hlt, hle⟩ := hlt
      obtain ⟨b, o, rfl, hc⟩ := h.grow hb1 (Nat.le_refl _) (by omega)
      obtain ⟨c0, _, _⟩ := hc k hlt
      have HL1 : Hid (∀ j, j < k + 1 → ltS (ms j).id nm.id = true) := fun j hj => by
        by_cases e : j = k
        · subst e; exact hle
        · exact HL.out j (by omega)
      have i1 : (0 : Int) ≤ (k : Int) := by omega
      have i2 : (k : Int) < (n : Int) := by omega
      have i3 : decide ((k : Int) < (n : Int)) = true := by simp; omega
      have hle' : Op.bytesLess (ms k).id.toList nm.id.toList = true := hle
      clear hc h hmk
      go_wp2_with fail
      go_quiet (fail)
      go_wp2_with fail
      go_roundg (n - (k + 1))
      case measure => omega
      case rel => exact ⟨k + 1, by omega, by go_num, ⟨m + nq, by simp⟩, HL1⟩
    · have HK : Hid (k < n → ltS (ms k).id nm.id = false) := fun h2 => by
        cases e : ltS (ms k).id nm.id with
        | false => rfl
        | true => exact absurd ⟨h2, e⟩ hlt
      have hkn : k ≤ n := by omega
      clear hlt
      by_cases hlt : k < n
      case' pos =>
        obtain ⟨b, o, rfl, hc⟩ := h.grow hb1 (Nat.le_refl _) (by omega)
        obtain ⟨c0, _, _⟩ := hc k hlt
        have i1 : (0 : Int) ≤ (k : Int) := by omega
        have i2 : (k : Int) < (n : Int) := by omega
        have i3 : decide ((k : Int) < (n : Int)) = true := by simp; omega
        have hle' : Op.bytesLess (ms k).id.toList nm.id.toList = false := HK.out hlt
        clear hc
        go_wp2_with fail
        go_quiet (fail)
        clear c0
      case' neg =>
        have i3 : decide ((k : Int) < (n : Int)) = false := by simp; omega
        have i2 : ¬ ((k : Int) < (n : Int)) := by omega
        go_wp2_with fail
        go_quiet (fail)
      all_goals
        go_wp2_with fail
        have hI := HFST.out (m + nq) (ins ms nm k)
        clear HFST hmk hw1 hb1
        generalize (W1.drewN (m + nq)).alloc (.cells (rows0 (n + 1)) 37) = W2 at *
        obtain ⟨g, hg⟩ : ∃ g, g = w.heap.size + 1 := ⟨_, rfl⟩
        rw [← hg] at hI ⊢
        clear hg HS1 hS1
        go_loopg [7] k (fun q i wr => ∃ j : Nat, j + q = k ∧ i = .int .i64 j ∧ InsAt w wr nm g (n + 1) (fun i => i < j) (ins ms nm k))
        case atStart => exact ⟨0, by omega, rfl, hI.mono (fun i _ h => absurd h (by omega))⟩
        case round =>
          clear hI
          obtain ⟨j, hj, rfl, hI⟩ := hrel
          by_cases hjk : j < k
          · obtain ⟨b, o, hx, hc⟩ := h.grow hI.below (Nat.le_refl _) (by omega)
            cases hx
            obtain ⟨c0, c1, c2⟩ := hc j (by omega)
            obtain ⟨⟨v0, d0⟩, f0⟩ := hI.row.there (j * 3) (by omega)
            obtain ⟨⟨v1, d1⟩, f1⟩ := hI.row.there (j * 3 + 1) (by omega)
            obtain ⟨⟨v2, d2⟩, f2⟩ := hI.row.there (j * 3 + 2) (by omega)
            have hnext := hI.put (Q := fun i => i < j + 1) j (by omega) (ms j) (by simp [ins, hjk]) (fun i hi hq => by omega)
            clear hc
            go_wp2_with fail
            go_roundg (k - (j + 1))
            case measure => omega
            case rel => exact ⟨j + 1, by omega, by go_num, hnext⟩
          · obtain rfl : j = k := by omega
            have e0 : wr.cell? ⟨w.heap.size, 0, none⟩ = some (.string nm.id) := by rw [cell_of_row _ _ _ _ _ _ hI.box]; rfl
            have e1 : wr.cell? ⟨w.heap.size, 1, none⟩ = some (.string nm.peer) := by rw [cell_of_row _ _ _ _ _ _ hI.box]; rfl
            have e2 : wr.cell? ⟨w.heap.size, 2, none⟩ = some (.string nm.client) := by rw [cell_of_row _ _ _ _ _ _ hI.box]; rfl
            obtain ⟨⟨v0, d0⟩, f0⟩ := hI.row.there (j * 3) (by omega)
            obtain ⟨⟨v1, d1⟩, f1⟩ := hI.row.there (j * 3 + 1) (by omega)
            obtain ⟨⟨v2, d2⟩, f2⟩ := hI.row.there (j * 3 + 2) (by omega)
            have hnext := hI.put (Q := fun i => i < j + 1) j (by omega) nm (by simp [ins]) (fun i hi hq => by omega)
            go_wp2_with fail
            clear hI e0 e1 e2 d0 d1 d2 f0 f1 f2
            generalize ((wr.setCell ⟨g, j * 3, none⟩ (.string nm.id)).setCell ⟨g, j * 3 + 1, none⟩ (.string nm.peer)).setCell ⟨g, j * 3 + 2, none⟩ (.string nm.client) = W3 at *
            go_loopg [8] (n - j) (fun q i wr => ∃ l : Nat, l + q = n ∧ j ≤ l ∧ i = .int .i64 l ∧ InsAt w wr nm g (n + 1) (fun i => i < l + 1) (ins ms nm j))
            case atStart => exact ⟨j, by omega, Nat.le_refl _, rfl, hnext⟩
            case round =>
              clear hnext
              obtain ⟨l, hl, hjl, rfl, hI⟩ := hrel
              by_cases hln : l < n
              · clear hlt i2 i3
                obtain ⟨b, o, hx, hc⟩ := h.grow hI.below (Nat.le_refl _) (by omega)
                cases hx
                obtain ⟨c0, c1, c2⟩ := hc l (by omega)
                obtain ⟨⟨v0, d0⟩, f0⟩ := hI.row.there ((l + 1) * 3) (by omega)
                obtain ⟨⟨v1, d1⟩, f1⟩ := hI.row.there ((l + 1) * 3 + 1) (by omega)
                obtain ⟨⟨v2, d2⟩, f2⟩ := hI.row.there ((l + 1) * 3 + 2) (by omega)
                have hnext := hI.put (Q := fun i => i < l + 1 + 1) (l + 1) (by omega) (ms l) (by simp [ins, show ¬ l + 1 < j by omega, show ¬ l + 1 = j by omega]) (fun i hi hq => by omega)
                have t1 : ((l : Int) + 1).toNat = l + 1 := by omega
                have t2 : (l : Int) + 1 < ((n + 1 : Nat) : Int) := by omega
                have t3 : (l : Int) < (n : Int) := by omega
                clear hc
                go_wp2_with fail
                go_roundg (n - (l + 1))
                case measure => omega
                case rel => exact ⟨l + 1, by omega, by omega, by go_num, hnext⟩
              · obtain rfl : l = n := by omega
                go_wp2_with fail
                go_ret
                exact ⟨⟨_, _, j, rfl, Nat.le_of_lt hI.apart, hI.row.mems (fun i hi => hi), hkn, HL.out, HK.out⟩, hI.below⟩
end Go.Proofs.Qxb6630823a
