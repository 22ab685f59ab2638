/- The plain law of the weighted round robin: no Go in sight. -/
namespace Go.Proofs.Qxb6630756a.Plain

/-- The first place of the greatest of f 0, .., f (k - 1). -/
def best (f : Nat → Int) : Nat → Nat
  | 0 => 0
  | k + 1 => if f (best f k) < f k then k else best f k

theorem best_lt (f : Nat → Int) : ∀ k, 0 < k → best f k < k
  | 0, h => absurd h (by omega)
  | 1, _ => by simp [best]
  | k + 2, _ => by
    have := best_lt f (k + 1) (by omega)
    rw [best]
    split <;> omega
theorem best_le (f : Nat → Int) : ∀ k i, i < k → f i ≤ f (best f k)
  | 0, i, h => absurd h (by omega)
  | k + 1, i, h => by
    rw [best]
    by_cases e : i = k
    · subst e
      split <;> omega
    · have := best_le f k i (by omega)
      split <;> omega
theorem best_congr (f g : Nat → Int) : ∀ k, (∀ i, i < k → f i = g i) → best f k = best g k
  | 0, _ => rfl
  | k + 1, h => by
    have ih := best_congr f g k (fun i hi => h i (by omega))
    rw [best, best, ih]
    by_cases hk : k = 0
    · subst hk; simp [best]
    · have hb := best_lt g k (by omega)
      rw [h k (by omega), h (best g k) (by omega)]

def sumF (f : Nat → Int) : Nat → Int
  | 0 => 0
  | k + 1 => sumF f k + f k
theorem sumF_congr (f g : Nat → Int) : ∀ k, (∀ i, i < k → f i = g i) → sumF f k = sumF g k
  | 0, _ => rfl
  | k + 1, h => by
    rw [sumF, sumF, sumF_congr f g k (fun i hi => h i (by omega)), h k (by omega)]
theorem sumF_nonpos (f : Nat → Int) : ∀ k, (∀ i, i < k → f i ≤ 0) → sumF f k ≤ 0
  | 0, _ => by simp [sumF]
  | k + 1, h => by
    have := sumF_nonpos f k (fun i hi => h i (by omega))
    have := h k (by omega)
    rw [sumF]; omega
theorem sumF_lin (f g : Nat → Int) (a b : Int) : ∀ k, sumF (fun i => a * f i - b * g i) k = a * sumF f k - b * sumF g k
  | 0 => by simp [sumF]
  | k + 1 => by
    rw [sumF, sumF, sumF, sumF_lin f g a b k, Int.mul_add, Int.mul_add]; omega
theorem sumF_bump (f : Nat → Int) (b : Nat) : ∀ k, sumF (fun i => f i + if i = b then 1 else 0) k = sumF f k + if b < k then 1 else 0
  | 0 => by simp [sumF]
  | k + 1 => by
    rw [sumF, sumF, sumF_bump f b k]
    by_cases h : k = b
    · subst h; simp; omega
    · by_cases h2 : b < k
      · simp [h, h2, show b < k + 1 by omega]; omega
      · simp [h, h2, show ¬ b < k + 1 by omega]
theorem sumF_le_eq (f g : Nat → Int) : ∀ k, (∀ i, i < k → f i ≤ g i) → sumF f k ≤ sumF g k ∧ (sumF f k = sumF g k → ∀ i, i < k → f i = g i)
  | 0, _ => ⟨by simp [sumF], fun _ i hi => absurd hi (by omega)⟩
  | k + 1, h => by
    obtain ⟨h1, h2⟩ := sumF_le_eq f g k (fun i hi => h i (by omega))
    have h3 := h k (by omega)
    refine ⟨by rw [sumF, sumF]; omega, fun e i hi => ?_⟩
    rw [sumF, sumF] at e
    by_cases hk : i = k
    · subst hk; omega
    · exact h2 (by omega) i (by omega)

section
variable (ps : Nat → Int) (T : Int) (n : Nat)

/-- How often place i has been chosen in the first k steps. -/
def counts : Nat → Nat → Int
  | 0 => fun _ => 0
  | k + 1 => fun i => counts k i + if i = best (fun j => ((k : Int) + 1) * ps j - T * counts k j) n then 1 else 0
/-- The place chosen at step k (from 0). -/
def sq (k : Nat) : Nat := best (fun j => ((k : Int) + 1) * ps j - T * counts ps T n k j) n
/-- The counters behind k steps. -/
def cnt (k i : Nat) : Int := (k : Int) * ps i - T * counts ps T n k i

theorem counts_succ (k i : Nat) : counts ps T n (k + 1) i = counts ps T n k i + if i = sq ps T n k then 1 else 0 := rfl
theorem cnt_zero (i : Nat) : cnt ps T n 0 i = 0 := by simp [cnt, counts]
theorem cnt_add (k i : Nat) : cnt ps T n k i + ps i = ((k : Int) + 1) * ps i - T * counts ps T n k i := by
  unfold cnt; rw [Int.add_mul]; omega
theorem sq_eq (k : Nat) : sq ps T n k = best (fun i => cnt ps T n k i + ps i) n := by
  unfold sq; exact best_congr _ _ _ (fun i _ => (cnt_add ps T n k i).symm)
theorem cnt_succ (k i : Nat) : cnt ps T n (k + 1) i = if i = sq ps T n k then cnt ps T n k i + ps i - T else cnt ps T n k i + ps i := by
  rw [cnt_add]
  unfold cnt
  rw [counts_succ]
  have e : ((k + 1 : Nat) : Int) = (k : Int) + 1 := by omega
  rw [e]
  split
  · rw [Int.mul_add]; omega
  · rw [Int.add_zero]
theorem sq_lt (hn : 0 < n) (k : Nat) : sq ps T n k < n := best_lt _ _ hn
theorem counts_bd (k i : Nat) : 0 ≤ counts ps T n k i ∧ counts ps T n k i ≤ k := by
  induction k with
  | zero => simp [counts]
  | succ k ih => rw [counts_succ]; split <;> omega
theorem counts_sum (hn : 0 < n) (k : Nat) : sumF (counts ps T n k) n = k := by
  induction k with
  | zero =>
    have : ∀ m, sumF (counts ps T n 0) m = 0 := fun m => by induction m with
      | zero => rfl
      | succ m ih => rw [sumF, ih]; simp [counts]
    exact this n
  | succ k ih =>
    have e : sumF (counts ps T n (k + 1)) n = sumF (fun i => counts ps T n k i + if i = sq ps T n k then 1 else 0) n := rfl
    rw [e, sumF_bump, ih, if_pos (sq_lt ps T n hn k)]
    omega

theorem cnt_gt (hn : 0 < n) (hp : ∀ i, i < n → 1 ≤ ps i) (hT : sumF ps n = T) (hT0 : 0 < T) (k : Nat) : ∀ i, i < n → -T < cnt ps T n k i := by
  induction k with
  | zero => intro i _; rw [cnt_zero]; omega
  | succ k ih =>
    intro i hi
    rw [cnt_succ]
    split
    · rename_i e
      have hmax : ∀ j, j < n → cnt ps T n k j + ps j ≤ cnt ps T n k i + ps i := by
        intro j hj
        rw [e, sq_eq]
        exact best_le (fun i => cnt ps T n k i + ps i) n j hj
      have hs : sumF (fun j => ((k : Int) + 1) * ps j - T * counts ps T n k j) n = T := by
        rw [sumF_lin, counts_sum ps T n hn, hT, Int.add_mul, Int.mul_comm T]; omega
      have hpos : 0 < cnt ps T n k i + ps i := by
        by_cases hc : 0 < cnt ps T n k i + ps i
        · exact hc
        · have := sumF_nonpos (fun j => ((k : Int) + 1) * ps j - T * counts ps T n k j) n (fun j hj => by
            show ((k : Int) + 1) * ps j - T * counts ps T n k j ≤ 0
            rw [← cnt_add]; have := hmax j hj; omega)
          omega
      omega
    · have := ih i hi
      have := hp i hi
      omega

theorem counts_all (hn : 0 < n) (hp : ∀ i, i < n → 1 ≤ ps i) (hT : sumF ps n = T) (N : Nat) (hN : (N : Int) = T) (hT0 : 0 < T) : ∀ i, i < n → counts ps T n N i = ps i := by
  have hle : ∀ i, i < n → counts ps T n N i ≤ ps i := by
    intro i hi
    have h := cnt_gt ps T n hn hp hT hT0 N i hi
    unfold cnt at h
    rw [hN, ← Int.mul_sub] at h
    by_cases hc : counts ps T n N i ≤ ps i
    · exact hc
    · have : T * (ps i - counts ps T n N i) ≤ T * (-1) := Int.mul_le_mul_of_nonneg_left (by omega) (by omega)
      omega
  exact (sumF_le_eq _ _ n hle).2 (by rw [counts_sum ps T n hn, hT, hN])
end

/-- Place i, counted over m entries from entry s on, mod N. -/
def runs (ps : Nat → Int) (T : Int) (n N s : Nat) : Nat → Nat → Int
  | 0 => fun _ => 0
  | m + 1 => fun i => runs ps T n N s m i + if i = sq ps T n ((s + m) % N) then 1 else 0

theorem runs_succ (ps : Nat → Int) (T : Int) (n N s m i : Nat) : runs ps T n N s (m + 1) i = runs ps T n N s m i + if i = sq ps T n ((s + m) % N) then 1 else 0 := rfl
theorem runs_bd (ps : Nat → Int) (T : Int) (n N s m i : Nat) : 0 ≤ runs ps T n N s m i ∧ runs ps T n N s m i ≤ m := by
  induction m with
  | zero => simp [runs]
  | succ m ih => rw [runs_succ]; split <;> omega

theorem runs_lo (ps : Nat → Int) (T : Int) (n N s i : Nat) : ∀ m, s + m ≤ N → runs ps T n N s m i = counts ps T n (s + m) i - counts ps T n s i
  | 0, _ => by simp [runs]
  | m + 1, h => by
    rw [runs_succ, runs_lo ps T n N s i m (by omega), Nat.mod_eq_of_lt (by omega), ← Nat.add_assoc, counts_succ]; omega
theorem runs_hi (ps : Nat → Int) (T : Int) (n N s i : Nat) (hs : s < N) : ∀ m, m ≤ s → runs ps T n N s (N - s + m) i = counts ps T n N i - counts ps T n s i + counts ps T n m i
  | 0, _ => by
    rw [Nat.add_zero, runs_lo ps T n N s i (N - s) (by omega), Nat.add_sub_cancel' (by omega)]; simp [counts]
  | m + 1, h => by
    rw [← Nat.add_assoc, runs_succ, runs_hi ps T n N s i hs m (by omega), counts_succ]
    have e : (s + (N - s + m)) % N = m := by
      rw [show s + (N - s + m) = m + N by omega, Nat.add_mod_right]; exact Nat.mod_eq_of_lt (by omega)
    rw [e]; omega
theorem runs_all (ps : Nat → Int) (T : Int) (n N s i : Nat) (hs : s < N) : runs ps T n N s N i = counts ps T n N i := by
  have := runs_hi ps T n N s i hs s (Nat.le_refl _)
  rw [show N - s + s = N by omega] at this
  rw [this]; omega

end Go.Proofs.Qxb6630756a.Plain
