/-
  The plain functions of a room: need, claims, roomFor, the ledger's sum. No Go in sight.
-/
namespace Go.Proofs.Qxb6001373aMods

/-- A place as plain data. -/
structure Pl where
  la : Int
  un : Int
  he : Int
  wa : Bool
  ad : Bool

/-- A place whose numbers are as the laws suppose. -/
def Pl.ok (p : Pl) : Prop := 0 ≤ p.la ∧ p.la ≤ 18446744073709551615 ∧ 1 ≤ p.un ∧ p.un ≤ 9223372036854775807 ∧ 0 ≤ p.he ∧ p.he ≤ 281474976710656

def fitsB (mx : Int) (p : Pl) : Bool := decide (p.la < mx / p.un)
def needV (mx : Int) (p : Pl) : Int := if fitsB mx p = true then (p.la + 1) * p.un else mx
def claimB (mx : Int) (p : Pl) : Bool := !p.wa && (!p.ad && fitsB mx p)

/-- roomFor's sum behind the first i places; k: the place that asks. -/
def rf (mx hd : Int) (st : Nat → Pl) (k : Nat) : Nat → Int
  | 0 => mx - hd
  | i + 1 => if i ≠ k ∧ claimB mx (st i) = true then rf mx hd st k i - (needV mx (st i) - (st i).he) else rf mx hd st k i

/-- The sum of what the first i places hold. -/
def sumH (st : Nat → Pl) : Nat → Int
  | 0 => 0
  | i + 1 => sumH st i + (st i).he

def upd (st : Nat → Pl) (k : Nat) (p : Pl) (i : Nat) : Pl := if i = k then p else st i
def letP (p : Pl) : Pl := { p with he := 0, wa := true, ad := false }

theorem need_fits {mx : Int} {p : Pl} (hp : p.ok) (h : fitsB mx p = true) : 0 ≤ (p.la + 1) * p.un ∧ (p.la + 1) * p.un ≤ mx := by
  obtain ⟨h1, _, h2, _⟩ := hp
  have hf : p.la + 1 ≤ mx / p.un := by have := of_decide_eq_true h; omega
  refine ⟨Int.mul_nonneg (by omega) (by omega), ?_⟩
  calc (p.la + 1) * p.un ≤ mx / p.un * p.un := Int.mul_le_mul_of_nonneg_right hf (by omega)
    _ ≤ mx := Int.ediv_mul_le mx (by omega)
theorem need_bd {mx : Int} {p : Pl} (h0 : 0 ≤ mx) (hp : p.ok) : 0 ≤ needV mx p ∧ needV mx p ≤ mx := by
  unfold needV
  split
  · exact need_fits hp ‹_›
  · omega
theorem la_fits {mx : Int} {p : Pl} (h0 : 0 ≤ mx) (h : fitsB mx p = true) : p.la < mx := by
  have hf : p.la < mx / p.un := of_decide_eq_true h
  have : mx / p.un ≤ mx := Int.ediv_le_self p.un h0
  omega

theorem rf_bd {mx hd : Int} {st : Nat → Pl} {k : Nat} (h0 : 0 ≤ mx) (h1 : mx ≤ 281474976710656) (h2 : 0 ≤ hd) (h3 : hd ≤ 1152921504606846976) :
    ∀ i, (∀ j, j < i → (st j).ok) → -1152921504606846976 - 281474976710656 * (i : Int) ≤ rf mx hd st k i ∧ rf mx hd st k i ≤ 281474976710656 + 281474976710656 * (i : Int)
  | 0, _ => by unfold rf; omega
  | i + 1, h => by
    have ih := rf_bd (k := k) h0 h1 h2 h3 i (fun j hj => h j (by omega))
    have hp := h i (by omega)
    have hb := need_bd h0 hp
    obtain ⟨_, _, _, _, h5, h6⟩ := hp
    unfold rf
    split <;> omega

theorem sumH_bd {st : Nat → Pl} : ∀ i, (∀ j, j < i → (st j).ok) → 0 ≤ sumH st i ∧ sumH st i ≤ 281474976710656 * (i : Int)
  | 0, _ => by unfold sumH; omega
  | i + 1, h => by
    have ih := sumH_bd i (fun j hj => h j (by omega))
    obtain ⟨_, _, _, _, h5, h6⟩ := h i (by omega)
    unfold sumH
    omega

theorem sumH_upd {st : Nat → Pl} {k : Nat} {p : Pl} : ∀ i, sumH (upd st k p) i = sumH st i + (if k < i then p.he - (st k).he else 0)
  | 0 => by simp [sumH]
  | i + 1 => by
    have ih := sumH_upd (st := st) (k := k) (p := p) i
    unfold sumH
    rw [ih]
    by_cases e : i = k
    · subst e
      have : upd st i p i = p := by simp [upd]
      rw [this, if_neg (by omega), if_pos (by omega)]
      omega
    · have : upd st k p i = st i := by simp [upd, e]
      rw [this]
      by_cases h : k < i
      · rw [if_pos h, if_pos (by omega)]; omega
      · rw [if_neg h, if_neg (by omega)]; omega

theorem upd_same (st : Nat → Pl) (k : Nat) (p : Pl) : upd st k p k = p := by simp [upd]
theorem upd_other (st : Nat → Pl) (k : Nat) (p : Pl) (i : Nat) (h : i ≠ k) : upd st k p i = st i := by simp [upd, h]
theorem letP_ok {p : Pl} (h : p.ok) : (letP p).ok := by
  obtain ⟨h1, h2, h3, h4, _, _⟩ := h
  exact ⟨h1, h2, h3, h4, by simp [letP], by simp [letP]⟩

end Go.Proofs.Qxb6001373aMods
