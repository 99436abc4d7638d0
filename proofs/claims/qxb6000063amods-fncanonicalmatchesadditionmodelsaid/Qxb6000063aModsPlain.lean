/-
  The plain functions that 'canonical' and the law compute, and the plain law. No Go in sight.
-/
namespace Go.Proofs.Qxb6000063aMods

/-- Two rows of n numbers, compared cell by cell. -/
def rowEq (n : Nat) (f g : Nat → Int) : Bool := (List.range n).all fun i => f i == g i
theorem rowEq_iff (n : Nat) (f g : Nat → Int) : rowEq n f g = true ↔ ∀ j, j < n → f j = g j := by simp [rowEq]

/-- y: the low 255 bits. -/
def low (x : Nat → Int) (j : Nat) : Int := if j = 31 then x 31 % 128 else x j
/-- 'high' behind k rounds. -/
def hiB (x : Nat → Int) (k : Nat) : Bool := decide (x 31 % 128 = 127 ∧ 237 ≤ x 0 ∧ ∀ j, j < k → x (1 + j) = 255)
def oneF (j : Nat) : Int := if j = 0 then 1 else 0
/-- 'minusOne' with the cells below k written. -/
def moF (k j : Nat) : Int := if j = 0 then 236 else if j = 31 then 127 else if j < k then 255 else 0

/-- What 'canonical' answers. -/
def canonB (x : Nat → Int) : Bool := !hiB x 30 && (x 31 / 128 == 0 || (!rowEq 32 (low x) oneF && !rowEq 32 (low x) (moF 31)))

theorem hiB_zero_no {x : Nat → Int} (h : (x 31 % 128 == 127) = false) : hiB x 0 = false := by
  have h' : ¬ x 31 % 128 = 127 := by simpa using h
  simp [hiB, h']
theorem hiB_zero_yes {x : Nat → Int} (h : (x 31 % 128 == 127) = true) : hiB x 0 = decide (237 ≤ x 0) := by
  have h' : x 31 % 128 = 127 := by simpa using h
  simp [hiB, h']
theorem hiB_succ_no {x : Nat → Int} {k : Nat} (h : hiB x k = false) : hiB x (k + 1) = false := by
  have h' := of_decide_eq_false h
  refine decide_eq_false fun hq => h' ⟨hq.1, hq.2.1, fun j hj => hq.2.2 j (by omega)⟩
theorem hiB_succ_yes {x : Nat → Int} {k : Nat} (h : hiB x k = true) : hiB x (k + 1) = (x (1 + k) == 255) := by
  have h' := of_decide_eq_true h
  rw [Bool.eq_iff_iff]
  simp only [hiB, decide_eq_true_eq, beq_iff_eq]
  constructor
  · intro hq; exact hq.2.2 k (by omega)
  · intro hq
    refine ⟨h'.1, h'.2.1, fun j hj => ?_⟩
    by_cases e : j = k
    · subst e; exact hq
    · exact h'.2.2 j (by omega)

/-! The model by addition -/
/-- The carry ahead of round k. -/
def car (x : Nat → Int) : Nat → Int
  | 0 => 19
  | k + 1 => (low x k + car x k) / 256
/-- t[k]. -/
def tt (x : Nat → Int) (k : Nat) : Int := (low x k + car x k) % 256
def ovB (x : Nat → Int) : Bool := tt x 31 / 128 * 128 != 0
def sgB (x : Nat → Int) : Bool := x 31 / 128 * 128 != 0
def twB (x : Nat → Int) (k : Nat) : Bool := decide (tt x 0 = 20 ∧ ∀ j, j < k → 1 ≤ j → tt x j = 0)
def alB (x : Nat → Int) (k : Nat) : Bool := decide (tt x 31 = 127 ∧ ∀ j, j < k → tt x j = 255)
def wantB (x : Nat → Int) : Bool := !ovB x && (!sgB x || (!twB x 32 && !alB x 31))

theorem tt_bd (x : Nat → Int) (k : Nat) : 0 ≤ tt x k ∧ tt x k ≤ 255 := by unfold tt; omega

theorem twB_one (x : Nat → Int) : twB x 1 = (tt x 0 == 20) := by
  rw [Bool.eq_iff_iff]
  simp only [twB, decide_eq_true_eq, beq_iff_eq]
  constructor
  · intro h; exact h.1
  · intro h; exact ⟨h, fun j h1 h2 => by omega⟩
theorem twB_zero {x : Nat → Int} {k : Nat} (hk : 1 ≤ k) (h : (tt x k != 0) = false) : twB x (k + 1) = twB x k := by
  have h' : tt x k = 0 := by simpa using h
  rw [Bool.eq_iff_iff]
  simp only [twB, decide_eq_true_eq]
  constructor
  · intro q; exact ⟨q.1, fun j h1 h2 => q.2 j (by omega) h2⟩
  · intro q
    refine ⟨q.1, fun j h1 h2 => ?_⟩
    by_cases e : j = k
    · subst e; exact h'
    · exact q.2 j (by omega) h2
theorem twB_set {x : Nat → Int} {k : Nat} (hk : 1 ≤ k) (h : (tt x k != 0) = true) : twB x (k + 1) = false := by
  have h' : ¬ tt x k = 0 := by simpa using h
  exact decide_eq_false fun q => h' (q.2 k (by omega) hk)
theorem alB_start (x : Nat → Int) : alB x 0 = (tt x 31 == 127) := by
  rw [Bool.eq_iff_iff]
  simp only [alB, decide_eq_true_eq, beq_iff_eq]
  constructor
  · intro h; exact h.1
  · intro h; exact ⟨h, fun j h1 => by omega⟩
theorem alB_same {x : Nat → Int} {k : Nat} (h : (tt x k != 255) = false) : alB x (k + 1) = alB x k := by
  have h' : tt x k = 255 := by simpa using h
  rw [Bool.eq_iff_iff]
  simp only [alB, decide_eq_true_eq]
  constructor
  · intro q; exact ⟨q.1, fun j h1 => q.2 j (by omega)⟩
  · intro q
    refine ⟨q.1, fun j h1 => ?_⟩
    by_cases e : j = k
    · subst e; exact h'
    · exact q.2 j (by omega)
theorem alB_set {x : Nat → Int} {k : Nat} (h : (tt x k != 255) = true) : alB x (k + 1) = false := by
  have h' : ¬ tt x k = 255 := by simpa using h
  exact decide_eq_false fun q => h' (q.2 k (by omega))

section
variable {x : Nat → Int} (hx : ∀ j, 0 ≤ x j ∧ x j ≤ 255)

theorem low_bd (hx : ∀ j, 0 ≤ x j ∧ x j ≤ 255) (k : Nat) : 0 ≤ low x k ∧ low x k ≤ 255 := by
  have h1 := hx k
  have h2 := hx 31
  unfold low
  split <;> omega
theorem low_lt {j : Nat} (h : j ≠ 31) : low x j = x j := by unfold low; rw [if_neg h]
theorem low_31 : low x 31 = x 31 % 128 := rfl

theorem car_bd (hx : ∀ j, 0 ≤ x j ∧ x j ≤ 255) : ∀ k, 0 ≤ car x k ∧ car x k ≤ 19
  | 0 => by unfold car; omega
  | k + 1 => by
    have h1 := low_bd hx k
    have h2 := car_bd hx k
    unfold car
    omega

/-- The carry beyond the first byte: 0 or 1; 1 just where all bytes so far are full. -/
theorem car_succ (hx : ∀ j, 0 ≤ x j ∧ x j ≤ 255) : ∀ k, k < 31 → (car x (k + 1) = 0 ∨ car x (k + 1) = 1) ∧ (car x (k + 1) = 1 ↔ (237 ≤ x 0 ∧ ∀ j, j < k → x (1 + j) = 255))
  | 0, _ => by
    have h0 : car x 1 = (low x 0 + 19) / 256 := rfl
    have h1 := hx 0
    rw [h0, low_lt (by omega)]
    refine ⟨by omega, ?_⟩
    constructor
    · intro h; exact ⟨by omega, fun j hj => by omega⟩
    · intro h; have := h.1; omega
  | k + 1, hk => by
    have ih := car_succ hx k (by omega)
    have h0 : car x (k + 1 + 1) = (low x (k + 1) + car x (k + 1)) / 256 := rfl
    have h1 := hx (k + 1)
    rw [h0, low_lt (by omega)]
    refine ⟨by omega, ?_⟩
    constructor
    · intro h
      have c1 : car x (k + 1) = 1 := by omega
      have q := ih.2.1 c1
      refine ⟨q.1, fun j hj => ?_⟩
      by_cases e : j = k
      · subst e
        rw [show 1 + j = j + 1 by omega]
        omega
      · exact q.2 j (by omega)
    · intro h
      have c1 := ih.2.2 ⟨h.1, fun j hj => h.2 j (by omega)⟩
      have e : x (k + 1) = 255 := by rw [show k + 1 = 1 + k by omega]; exact h.2 k (by omega)
      rw [c1, e]
      rfl

theorem ov_eq (hx : ∀ j, 0 ≤ x j ∧ x j ≤ 255) : ovB x = hiB x 30 := by
  have hc := car_succ hx 30 (by omega)
  have hc1 : car x 31 = 0 ∨ car x 31 = 1 := hc.1
  have h1 := hx 31
  rw [Bool.eq_iff_iff]
  simp only [ovB, hiB, decide_eq_true_eq, bne_iff_ne]
  have ht : tt x 31 = (x 31 % 128 + car x 31) % 256 := rfl
  rw [ht]
  constructor
  · intro h
    have c1 : car x 31 = 1 := by omega
    have q := hc.2.1 c1
    exact ⟨by omega, q.1, q.2⟩
  · intro h
    have c1 := hc.2.2 ⟨h.2.1, h.2.2⟩
    have c2 : car x 31 = 1 := c1
    rw [c2, h.1]
    decide

theorem sg_eq (hx : ∀ j, 0 ≤ x j ∧ x j ≤ 255) : (!sgB x) = (x 31 / 128 == 0) := by
  have h1 := hx 31
  unfold sgB
  have : x 31 / 128 = 0 ∨ x 31 / 128 = 1 := by omega
  rcases this with h | h <;> rw [h] <;> rfl

/-- Where the first carry is 0, no carry follows, and t is y beyond the first byte. -/
theorem tt_still (hx : ∀ j, 0 ≤ x j ∧ x j ≤ 255) (h : car x 1 = 0) : ∀ k, car x (k + 1) = 0 ∧ tt x (k + 1) = low x (k + 1) := by
  have hc : ∀ k, car x (k + 1) = 0 := by
    intro k
    induction k with
    | zero => exact h
    | succ k ih =>
      have h0 : car x (k + 1 + 1) = (low x (k + 1) + car x (k + 1)) / 256 := rfl
      have h1 := low_bd hx (k + 1)
      rw [h0, ih]
      omega
  intro k
  refine ⟨hc k, ?_⟩
  have h1 := low_bd hx (k + 1)
  show (low x (k + 1) + car x (k + 1)) % 256 = _
  rw [hc k]
  omega

theorem tw_eq (hx : ∀ j, 0 ≤ x j ∧ x j ≤ 255) : twB x 32 = rowEq 32 (low x) oneF := by
  have h0 := hx 0
  have t0 : tt x 0 = (x 0 + 19) % 256 := rfl
  have c1 : car x 1 = (x 0 + 19) / 256 := rfl
  rw [Bool.eq_iff_iff, rowEq_iff]
  simp only [twB, decide_eq_true_eq]
  constructor
  · rintro ⟨h20, hr⟩ j hj
    have hz : car x 1 = 0 := by omega
    match j with
    | 0 => rw [low_lt (by omega)]; show x 0 = 1; omega
    | j + 1 =>
      have := (tt_still hx hz j).2
      rw [← this, hr (j + 1) hj (by omega)]
      rfl
  · intro h
    have hx0 : x 0 = 1 := by have := h 0 (by omega); rw [low_lt (by omega)] at this; exact this
    have hz : car x 1 = 0 := by omega
    refine ⟨by omega, fun j hj h1 => ?_⟩
    obtain ⟨i, rfl⟩ : ∃ i, j = i + 1 := ⟨j - 1, by omega⟩
    rw [(tt_still hx hz i).2, h (i + 1) hj]
    rfl

theorem al_eq (hx : ∀ j, 0 ≤ x j ∧ x j ≤ 255) : alB x 31 = rowEq 32 (low x) (moF 31) := by
  have h0 := hx 0
  have t0 : tt x 0 = (x 0 + 19) % 256 := rfl
  have c1 : car x 1 = (x 0 + 19) / 256 := rfl
  rw [Bool.eq_iff_iff, rowEq_iff]
  simp only [alB, decide_eq_true_eq]
  constructor
  · rintro ⟨h31, hr⟩ j hj
    have q := hr 0 (by omega)
    have hz : car x 1 = 0 := by omega
    match j with
    | 0 => rw [low_lt (by omega)]; show x 0 = 236; omega
    | j + 1 =>
      have e := (tt_still hx hz j).2
      by_cases e31 : j + 1 = 31
      · rw [← e, e31, h31]; rfl
      · rw [← e, hr (j + 1) (by omega)]
        unfold moF
        rw [if_neg (by omega), if_neg e31, if_pos (by omega)]
  · intro h
    have hx0 : x 0 = 236 := by have := h 0 (by omega); rw [low_lt (by omega)] at this; exact this
    have hz : car x 1 = 0 := by omega
    refine ⟨?_, fun j hj => ?_⟩
    · rw [(tt_still hx hz 30).2, h 31 (by omega)]; rfl
    · match j with
      | 0 => omega
      | j + 1 =>
        rw [(tt_still hx hz j).2, h (j + 1) (by omega)]
        unfold moF
        rw [if_neg (by omega), if_neg (by omega), if_pos (by omega)]

/-- THE PLAIN LAW. -/
theorem canon_is_want (hx : ∀ j, 0 ≤ x j ∧ x j ≤ 255) : canonB x = wantB x := by
  unfold canonB wantB
  rw [ov_eq hx, sg_eq hx, tw_eq hx, al_eq hx]
end

end Go.Proofs.Qxb6000063aMods
