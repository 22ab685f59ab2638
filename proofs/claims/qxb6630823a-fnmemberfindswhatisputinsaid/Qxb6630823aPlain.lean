/- The plain law of the memberships: no Go program in sight but the order of strings. -/
import GoSem.Op.String
namespace Go.Proofs.Qxb6630823a

/-! ### The order of byte lists -/
theorem bl_irrefl : ∀ x : List UInt8, Op.bytesLess x x = false
  | [] => rfl
  | a :: x => by simp [Op.bytesLess, bl_irrefl x, UInt8.lt_irrefl]
theorem bl_asymm : ∀ x y : List UInt8, Op.bytesLess x y = true → Op.bytesLess y x = false
  | _, [], h => by simp [Op.bytesLess] at h
  | [], _ :: _, _ => rfl
  | a :: x, b :: y, h => by
    simp only [Op.bytesLess, Bool.or_eq_true, decide_eq_true_eq, Bool.and_eq_true, beq_iff_eq] at h
    simp only [Op.bytesLess, Bool.or_eq_false_iff, decide_eq_false_iff_not, Bool.and_eq_false_iff]
    rcases h with h | ⟨rfl, h⟩
    · exact ⟨UInt8.not_lt.2 (UInt8.le_of_lt h), .inl (by simp; intro e; subst e; exact absurd h (UInt8.lt_irrefl _))⟩
    · exact ⟨UInt8.lt_irrefl _, .inr (bl_asymm x y h)⟩
theorem bl_tri : ∀ x y : List UInt8, Op.bytesLess x y = false → Op.bytesLess y x = false → x = y
  | [], [], _, _ => rfl
  | a :: x, [], _, h => by simp [Op.bytesLess] at h
  | [], b :: y, h, _ => by simp [Op.bytesLess] at h
  | a :: x, b :: y, h1, h2 => by
    simp only [Op.bytesLess, Bool.or_eq_false_iff, decide_eq_false_iff_not, Bool.and_eq_false_iff] at h1 h2
    have e : a = b := UInt8.le_antisymm (UInt8.not_lt.1 h2.1) (UInt8.not_lt.1 h1.1)
    subst e
    have h3 : Op.bytesLess x y = false := by rcases h1.2 with h | h; simp at h; exact h
    have h4 : Op.bytesLess y x = false := by rcases h2.2 with h | h; simp at h; exact h
    rw [bl_tri x y h3 h4]
/-- Not less goes on: 'x ≤ y' and 'y ≤ z' give 'x ≤ z'. -/
theorem bl_ntrans : ∀ x y z : List UInt8, Op.bytesLess y x = false → Op.bytesLess z y = false → Op.bytesLess z x = false
  | [], _, _, _, _ => by simp [Op.bytesLess]
  | _ :: _, [], _, h, _ => by simp [Op.bytesLess] at h
  | _ :: _, _ :: _, [], _, h => by simp [Op.bytesLess] at h
  | a :: x, b :: y, c :: z, h1, h2 => by
    simp only [Op.bytesLess, Bool.or_eq_false_iff, decide_eq_false_iff_not, Bool.and_eq_false_iff] at h1 h2 ⊢
    have hab := UInt8.not_lt.1 h1.1
    have hbc := UInt8.not_lt.1 h2.1
    refine ⟨UInt8.not_lt.2 (UInt8.le_trans hab hbc), ?_⟩
    by_cases e : c = a
    · subst e
      have e2 : b = c := UInt8.le_antisymm hbc hab
      subst e2
      right
      have h3 : Op.bytesLess y x = false := by rcases h1.2 with h | h; simp at h; exact h
      have h4 : Op.bytesLess z y = false := by rcases h2.2 with h | h; simp at h; exact h
      exact bl_ntrans x y z h3 h4
    · left; simpa using e

/-! ### Members -/
structure M3 where
  id : ByteArray
  peer : ByteArray
  client : ByteArray
def zero3 : M3 := ⟨{ data := #[] }, { data := #[] }, { data := #[] }⟩
def ltS (a b : ByteArray) : Bool := Op.bytesLess a.toList b.toList
def eqS (a b : ByteArray) : Bool := a.toList == b.toList
theorem eqS_refl (a : ByteArray) : eqS a a = true := by simp [eqS]
theorem eqS_of {a b : ByteArray} (h : eqS a b = true) : a.toList = b.toList := by simpa [eqS] using h

/-- The first of the first k members that bears the id. -/
def look (ms : Nat → M3) (id : ByteArray) : Nat → Option M3
  | 0 => none
  | k + 1 => match look ms id k with
    | some x => some x
    | none => if eqS (ms k).id id then some (ms k) else none
def hasB (ms : Nat → M3) (id : ByteArray) : Nat → Bool
  | 0 => false
  | k + 1 => hasB ms id k || eqS (ms k).id id
theorem hasB_look (ms : Nat → M3) (id : ByteArray) : ∀ k, hasB ms id k = (look ms id k).isSome
  | 0 => rfl
  | k + 1 => by
    rw [hasB, look, hasB_look ms id k]
    cases look ms id k with
    | none => cases h : eqS (ms k).id id <;> simp
    | some x => simp
theorem look_some (ms : Nat → M3) (id : ByteArray) : ∀ k x, look ms id k = some x → eqS x.id id = true ∧ ∃ i, i < k ∧ ms i = x
  | 0, _, h => by simp [look] at h
  | k + 1, x, h => by
    rw [look] at h
    cases e : look ms id k with
    | some y =>
      rw [e] at h
      simp at h
      subst h
      obtain ⟨h1, i, hi, h2⟩ := look_some ms id k y e
      exact ⟨h1, i, by omega, h2⟩
    | none =>
      rw [e] at h
      simp at h
      obtain ⟨h1, h2⟩ := h
      subst h2
      exact ⟨h1, k, by omega, rfl⟩
theorem look_none_of (ms : Nat → M3) (id : ByteArray) : ∀ k, (∀ i, i < k → eqS (ms i).id id = false) → look ms id k = none
  | 0, _ => rfl
  | k + 1, h => by
    rw [look, look_none_of ms id k (fun i hi => h i (by omega)), h k (by omega)]
    rfl
theorem look_first (ms : Nat → M3) (id : ByteArray) (i : Nat) (hi : eqS (ms i).id id = true) (h : ∀ j, j < i → eqS (ms j).id id = false) : ∀ d, look ms id (i + 1 + d) = some (ms i)
  | 0 => by
    show look ms id (i + 1) = _
    rw [look, look_none_of ms id i h, hi]
    rfl
  | d + 1 => by rw [← Nat.add_assoc, look, look_first ms id i hi h d]

/-- The ids do not fall. -/
def Sorted (ms : Nat → M3) (n : Nat) : Prop := ∀ i, 1 ≤ i → i < n → ltS (ms i).id (ms (i - 1)).id = false
theorem sorted_le {ms : Nat → M3} {n : Nat} (h : Sorted ms n) (i : Nat) : ∀ d, i + d < n → ltS (ms (i + d)).id (ms i).id = false
  | 0, _ => bl_irrefl _
  | d + 1, hd => bl_ntrans _ _ _ (sorted_le h i d (by omega)) (by have := h (i + (d + 1)) (by omega) hd; simpa [ltS] using this)

/-- The binary search's place: all before it are less, none from it on. -/
theorem look_at {ms : Nat → M3} {id : ByteArray} {n l : Nat} (hs : Sorted ms n) (hl : l ≤ n) (h1 : ∀ i, i < l → ltS (ms i).id id = true) (h2 : l < n → ltS (ms l).id id = false) :
    look ms id n = if l < n ∧ eqS (ms l).id id = true then some (ms l) else none := by
  have hb : ∀ j, j < l → eqS (ms j).id id = false := by
    intro j hj
    cases e : eqS (ms j).id id with
    | false => rfl
    | true =>
      have := h1 j hj
      rw [ltS, eqS_of e, bl_irrefl] at this
      cases this
  by_cases hln : l < n
  · cases e : eqS (ms l).id id with
    | true =>
      rw [if_pos ⟨hln, rfl⟩]
      have := look_first ms id l e hb (n - (l + 1))
      rwa [show l + 1 + (n - (l + 1)) = n by omega] at this
    | false =>
      rw [if_neg (by simp)]
      refine look_none_of ms id n fun i hi => ?_
      by_cases hil : i < l
      · exact hb i hil
      · cases e2 : eqS (ms i).id id with
        | false => rfl
        | true =>
          have h3 := sorted_le hs l (i - l) (by omega)
          rw [show l + (i - l) = i by omega, ltS, eqS_of e2] at h3
          have h4 := h2 hln
          have := bl_tri _ _ h4 h3
          rw [eqS, this] at e
          simp at e
  · rw [if_neg (fun h => hln h.1)]
    exact look_none_of ms id n fun i hi => hb i (by omega)

/-! ### Putting one in -/
def ins (ms : Nat → M3) (nm : M3) (k i : Nat) : M3 := if i < k then ms i else if i = k then nm else ms (i - 1)
theorem look_ins_other (ms : Nat → M3) (nm : M3) (k : Nat) (id : ByteArray) (hid : eqS nm.id id = false) : ∀ n, k ≤ n → look (ins ms nm k) id (n + 1) = look ms id n := by
  have hlow : ∀ m, m ≤ k → look (ins ms nm k) id m = look ms id m := by
    intro m
    induction m with
    | zero => intro _; rfl
    | succ m ih =>
      intro hm
      rw [look, look, ih (by omega), show ins ms nm k m = ms m by simp [ins, show m < k by omega]]
  intro n
  induction n with
  | zero =>
    intro hk
    obtain rfl : k = 0 := by omega
    rw [look, look, look]
    simp [ins, hid]
  | succ n ih =>
    intro hk
    by_cases e : k = n + 1
    · subst e
      rw [look, hlow (n + 1) (Nat.le_refl _)]
      cases h : look ms id (n + 1) with
      | some x => rfl
      | none => simp [ins, hid]
    · rw [look, ih (by omega)]
      rw [show ins ms nm k (n + 1) = ms n by simp [ins, show ¬ n + 1 < k by omega, show ¬ n + 1 = k by omega]]
      rfl
theorem look_ins_same (ms : Nat → M3) (nm : M3) (k n : Nat) (hk : k ≤ n) (hno : look ms nm.id n = none) : look (ins ms nm k) nm.id (n + 1) = some nm := by
  have hb : ∀ j, j < n → eqS (ms j).id nm.id = false := by
    intro j hj
    cases e : eqS (ms j).id nm.id with
    | false => rfl
    | true =>
      have h1 : hasB ms nm.id n = false := by rw [hasB_look, hno]; rfl
      have h2 : ∀ m, j < m → hasB ms nm.id m = true := by
        intro m
        induction m with
        | zero => intro h; omega
        | succ m ih =>
          intro h
          rw [hasB]
          by_cases e2 : j = m
          · subst e2; rw [e]; simp
          · rw [ih (by omega)]; simp
      rw [h2 n hj] at h1
      cases h1
  have := look_first (ins ms nm k) nm.id k (by simp [ins, eqS_refl]) (fun j hj => by simp [ins, hj]; exact hb j (by omega)) (n - k)
  rw [show k + 1 + (n - k) = n + 1 by omega] at this
  rw [this]; simp [ins]
theorem sorted_ins {ms : Nat → M3} {nm : M3} {n k : Nat} (hs : Sorted ms n) (hk : k ≤ n) (h1 : ∀ i, i < k → ltS (ms i).id nm.id = true) (h2 : k < n → ltS (ms k).id nm.id = false) : Sorted (ins ms nm k) (n + 1) := by
  intro i hi1 hi
  unfold ins
  by_cases e1 : i < k
  · rw [if_pos e1, if_pos (by omega)]
    exact hs i hi1 (by omega)
  · by_cases e2 : i = k
    · subst e2
      rw [if_neg (by omega), if_pos rfl, if_pos (by omega)]
      exact bl_asymm _ _ (h1 (i - 1) (by omega))
    · rw [if_neg e1, if_neg e2]
      by_cases e3 : i - 1 = k
      · rw [if_neg (by omega), if_pos e3, e3]
        exact h2 (by omega)
      · rw [if_neg (by omega), if_neg e3]
        have := hs (i - 1) (by omega) (by omega)
        exact this

/-! ### Three lists, the first that finds it -/
def find3 (a b c : Option M3) : M3 × Bool :=
  match a with
  | some x => (x, true)
  | none => match b with
    | some x => (x, true)
    | none => match c with
      | some x => (x, true)
      | none => (zero3, false)

end Go.Proofs.Qxb6630823a
