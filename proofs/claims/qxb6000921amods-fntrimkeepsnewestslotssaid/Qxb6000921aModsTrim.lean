/-
  The contract of (*slotCounts).trim (27).
-/
import Derived.Test.Qxb6000921aModsShaped
import Derived.RegionTactic
import Derived.BigRegion
namespace Go.Proofs.Qxb6000921aMods
open Go.RowKit

/-- The cells of a slotCounts. -/
def hdF (sl ta : Value) (j : Nat) : Value := if j = 1 then sl else if j = 4 then ta else if j = 0 then .string ⟨#[]⟩ else .int .i64 0
/-- A row of pairs. -/
def prF (x y : Nat → Int) (i : Nat) : Value := .int .i64 (if i % 2 = 0 then x (i / 2) else y (i / 2))
/-- The row of tallies, the windows of the first k laid. -/
def taF (B : Nat) (l : Nat → Nat) (k i : Nat) : Value :=
  if i % 4 = 3 then (if i / 4 < k then .slice (some ⟨B + 3 + i / 4, 0, none⟩) (l (i / 4)) (l (i / 4)) else .slice none 0 0) else if i % 4 = 1 then .slice none 0 0 else .int .i64 0

theorem prF_even (x y : Nat → Int) (i : Nat) : prF x y (i * 2) = .int .i64 (x i) := by
  unfold prF; rw [if_pos (by omega), show i * 2 / 2 = i by omega]
theorem prF_odd (x y : Nat → Int) (i : Nat) : prF x y (i * 2 + 1) = .int .i64 (y i) := by
  unfold prF; rw [if_neg (by omega), show (i * 2 + 1) / 2 = i by omega]
theorem taF_win (B : Nat) (l : Nat → Nat) (k t : Nat) (h : t < k) : taF B l k (t * 4 + 3) = .slice (some ⟨B + 3 + t, 0, none⟩) (l t) (l t) := by
  unfold taF; rw [if_pos (by omega), show (t * 4 + 3) / 4 = t by omega, if_pos h]

/-- The key as ZZTrim lays it: the struct at B, the slots at B+1, the tallies at B+2, the windows of tally t at B+3+t. -/
structure TrimSt (B n m : Nat) (l : Nat → Nat) (L C : Nat → Int) (S Q : Nat → Nat → Int) (sl : Value) (w : World) : Prop where
  box : w.rowIs B 46 5 (hdF sl (.slice (some ⟨B + 2, 0, none⟩) m m))
  slots : w.rowIs (B + 1) 48 (n * 2) (prF L C)
  tal : w.rowIs (B + 2) 53 (m * 4) (taF B l m)
  win : ∀ t, t < m → w.rowIs (B + 3 + t) 51 (l t * 2) (prF (S t) (Q t))

/-- Nothing but new memory: the key stands. -/
theorem TrimSt.below {B n m D : Nat} {l : Nat → Nat} {L C : Nat → Int} {S Q : Nat → Nat → Int} {sl : Value} {w w1 : World} (h : TrimSt B n m l L C S Q sl w) (hb : Below D w w1) (hD : B + 3 + m ≤ D) : TrimSt B n m l L C S Q sl w1 :=
  ⟨below_row hb h.box (by omega), below_row hb h.slots (by omega), below_row hb h.tal (by omega), fun t ht => below_row hb (h.win t ht) (by omega)⟩

/-- A window's pair is as it must be behind trim. -/
def Fixed (kp : Int) (S Q S' Q' : Nat → Nat → Int) (t j : Nat) : Prop := (S t j ≤ kp → S' t j = S t j ∧ Q' t j = Q t j) ∧ (kp < S t j → S' t j = kp)
def Same (S Q S' Q' : Nat → Nat → Int) (t j : Nat) : Prop := S' t j = S t j ∧ Q' t j = Q t j

theorem Trym.info53s : (Trym.prog.info? 53).map (·.size) = some 4 := by kernel_rfl
theorem Trym.info51s : (Trym.prog.info? 51).map (·.size) = some 2 := by kernel_rfl
theorem Trym.info48s : (Trym.prog.info? 48).map (·.size) = some 2 := by kernel_rfl
theorem Trym.info43s : (Trym.prog.info? 43).map (·.size) = some 1 := by kernel_rfl

/-- All windows ahead of window j0 of tally k are done, the others untouched. -/
def DoneTo (kp : Int) (l : Nat → Nat) (S Q S' Q' : Nat → Nat → Int) (k j0 : Nat) : Prop :=
  ∀ t j, ((t < k ∨ (t = k ∧ j < j0)) → j < l t → Fixed kp S Q S' Q' t j) ∧ ((k < t ∨ (t = k ∧ j0 ≤ j)) → Same S Q S' Q' t j)
def upd2 (S : Nat → Nat → Int) (k j : Nat) (v : Int) (t i : Nat) : Int := if t = k ∧ i = j then v else S t i

theorem doneTo_start (kp : Int) (l : Nat → Nat) (S Q : Nat → Nat → Int) : DoneTo kp l S Q S Q 0 0 :=
  fun t j => ⟨fun h => by omega, fun _ => ⟨rfl, rfl⟩⟩
theorem doneTo_row {kp : Int} {l : Nat → Nat} {S Q S' Q' : Nat → Nat → Int} {k : Nat} (h : DoneTo kp l S Q S' Q' k (l k)) : DoneTo kp l S Q S' Q' (k + 1) 0 := by
  intro t j
  refine ⟨fun h1 h2 => (h t j).1 ?_ h2, fun h1 => (h t j).2 (by omega)⟩
  by_cases e : t = k
  · subst e; exact .inr ⟨rfl, h2⟩
  · exact .inl (by omega)
theorem doneTo_skip {kp : Int} {l : Nat → Nat} {S Q S' Q' : Nat → Nat → Int} {k j0 : Nat} (h : DoneTo kp l S Q S' Q' k j0) (hs : S k j0 ≤ kp) : DoneTo kp l S Q S' Q' k (j0 + 1) := by
  intro t j
  refine ⟨fun h1 h2 => ?_, fun h1 => (h t j).2 (by omega)⟩
  by_cases e : t = k ∧ j = j0
  · obtain ⟨rfl, rfl⟩ := e
    have q := (h t j).2 (.inr ⟨rfl, Nat.le_refl _⟩)
    exact ⟨fun _ => q, fun h3 => by omega⟩
  · exact (h t j).1 (by omega) h2
theorem doneTo_cut {kp : Int} {l : Nat → Nat} {S Q S' Q' Q2 : Nat → Nat → Int} {k j0 : Nat} (h : DoneTo kp l S Q S' Q' k j0) (hs : kp < S k j0) (hq : ∀ t j, ¬ (t = k ∧ j = j0) → Q2 t j = Q' t j) : DoneTo kp l S Q (upd2 S' k j0 kp) Q2 k (j0 + 1) := by
  intro t j
  by_cases e : t = k ∧ j = j0
  · obtain ⟨rfl, rfl⟩ := e
    refine ⟨fun _ _ => ⟨fun h3 => by omega, fun _ => by simp [upd2]⟩, fun h1 => by omega⟩
  · have e1 : upd2 S' k j0 kp t j = S' t j := by unfold upd2; rw [if_neg e]
    have e2 := hq t j e
    refine ⟨fun h1 h2 => ?_, fun h1 => ?_⟩
    · have q := (h t j).1 (by omega) h2
      exact ⟨fun h3 => by rw [e1, e2]; exact q.1 h3, fun h3 => by rw [e1]; exact q.2 h3⟩
    · have q := (h t j).2 (by omega)
      exact ⟨by rw [e1]; exact q.1, by rw [e2]; exact q.2⟩

theorem prF_setS (S Q : Nat → Nat → Int) (k j : Nat) (v : Int) (i : Nat) : (if i = j * 2 then Value.int .i64 v else prF (S k) (Q k) i) = prF (upd2 S k j v k) (Q k) i := by
  unfold prF upd2
  by_cases e : i = j * 2
  · rw [if_pos e, if_pos (by omega), if_pos ⟨rfl, by omega⟩]
  · rw [if_neg e]
    by_cases e2 : i % 2 = 0
    · rw [if_pos e2, if_pos e2, if_neg (by omega)]
    · rw [if_neg e2, if_neg e2]
theorem prF_setQ (S Q : Nat → Nat → Int) (k j : Nat) (v : Int) (i : Nat) : (if i = j * 2 + 1 then Value.int .i64 v else prF (S k) (Q k) i) = prF (S k) (upd2 Q k j v k) i := by
  unfold prF upd2
  by_cases e : i = j * 2 + 1
  · rw [if_pos e, if_neg (by omega), if_pos ⟨rfl, by omega⟩]
  · rw [if_neg e]
    by_cases e2 : i % 2 = 0
    · rw [if_pos e2, if_pos e2]
    · rw [if_neg e2, if_neg e2, if_neg (by omega)]
theorem upd2_other (S : Nat → Nat → Int) (k j : Nat) (v : Int) (t : Nat) (h : t ≠ k) : upd2 S k j v t = S t := by
  funext i; unfold upd2; rw [if_neg (by omega)]

section
variable {B n m : Nat} {l : Nat → Nat} {L C : Nat → Int} {S Q : Nat → Nat → Int} {sl : Value} {w w1 : World}
theorem TrimSt.setS (h : TrimSt B n m l L C S Q sl w) {k j : Nat} {v : Int} (hk : k < m) (hr : w1.rowIs (B + 3 + k) 51 (l k * 2) (fun i => if i = j * 2 then Value.int .i64 v else prF (S k) (Q k) i)) (ho : Only (B + 3 + k) w w1) : TrimSt B n m l L C (upd2 S k j v) Q sl w1 := by
  refine ⟨ho.row h.box (by omega), ho.row h.slots (by omega), ho.row h.tal (by omega), fun t ht => ?_⟩
  by_cases e : t = k
  · subst e; exact hr.congr (fun i _ => prF_setS S Q t j v i)
  · rw [upd2_other S k j v t e]; exact ho.row (h.win t ht) (by omega)
theorem TrimSt.setQ (h : TrimSt B n m l L C S Q sl w) {k j : Nat} {v : Int} (hk : k < m) (hr : w1.rowIs (B + 3 + k) 51 (l k * 2) (fun i => if i = j * 2 + 1 then Value.int .i64 v else prF (S k) (Q k) i)) (ho : Only (B + 3 + k) w w1) : TrimSt B n m l L C S (upd2 Q k j v) sl w1 := by
  refine ⟨ho.row h.box (by omega), ho.row h.slots (by omega), ho.row h.tal (by omega), fun t ht => ?_⟩
  by_cases e : t = k
  · subst e; exact hr.congr (fun i _ => prF_setQ S Q t j v i)
  · rw [upd2_other Q k j v t e]; exact ho.row (h.win t ht) (by omega)
theorem TrimSt.drewN (h : TrimSt B n m l L C S Q sl w) (k : Nat) : TrimSt B n m l L C S Q sl (w.drewN k) := ⟨h.box, h.slots, h.tal, h.win⟩
theorem TrimSt.drew (h : TrimSt B n m l L C S Q sl w) : TrimSt B n m l L C S Q sl w.drew := ⟨h.box, h.slots, h.tal, h.win⟩
end

theorem hdF_set (v v' sl ta : Value) (j : Nat) (h : v = v') : (if j = 1 then v else hdF sl ta j) = hdF v' ta j := by
  rw [h]; unfold hdF
  by_cases e : j = 1
  · rw [if_pos e, if_pos e]
  · rw [if_neg e, if_neg e, if_neg e]
theorem TrimSt.setSl {B n m : Nat} {l : Nat → Nat} {L C : Nat → Int} {S Q : Nat → Nat → Int} {sl v v' : Value} {w w1 : World} (h : TrimSt B n m l L C S Q sl w) (hr : w1.rowIs B 46 5 (fun j => if j = 1 then v else hdF sl (.slice (some ⟨B + 2, 0, none⟩) m m) j)) (ho : Only B w w1) (hv : v = v') : TrimSt B n m l L C S Q v' w1 :=
  ⟨hr.congr (fun j _ => hdF_set v v' _ _ j hv), ho.row h.slots (by omega), ho.row h.tal (by omega), fun t ht => ho.row (h.win t ht) (by omega)⟩

/-- What trim does to the key. -/
def TrimPost (B n m : Nat) (l : Nat → Nat) (L C : Nat → Int) (S Q : Nat → Nat → Int) (F : Int) (w w' : World) : Prop :=
  ∃ d S' Q', (d = 0 ∨ d < n) ∧ (∀ i, i < d → L i < F) ∧ (d + 1 < n → F ≤ L d) ∧ DoneTo ((n : Int) - d) l S Q S' Q' m 0 ∧ TrimSt B n m l L C S' Q' (.slice (some ⟨B + 1, d * 2, none⟩) (n - d) (n - d)) w' ∧ Below B w w'

set_option maxHeartbeats 4000000 in
theorem trim_any (B n m : Nat) (l : Nat → Nat) (L C : Nat → Int) (S Q : Nat → Nat → Int) (F : Int) (w : World) (h : TrimSt B n m l L C S Q (.slice (some ⟨B + 1, 0, none⟩) n n) w)
    (hn : n ≤ 131072) (hm : m ≤ 131072) (hl : ∀ t, t < m → l t ≤ 131072) (hS : ∀ t, t < m → ∀ j, j < l t → S t j ≤ n) (hsz : B + 3 + m ≤ w.heap.size) :
    Calls Trym.prog 27 #[.pointer (some ⟨B, 0, none⟩), .int .i64 F] w fun e w' => e = .returned (.tuple #[]) ∧ TrimPost B n m l L C S Q F w w' := by
  have c1 : w.cell? ⟨B, 1, none⟩ = some (.slice (some ⟨B + 1, 0, none⟩) n n) := h.box.cell (i := 1) (by omega)
  have c4 : w.cell? ⟨B, 4, none⟩ = some (.slice (some ⟨B + 2, 0, none⟩) m m) := h.box.cell (i := 4) (by omega)
  go_enter Trym.func27, Trym.ntmps27
  go_wp2
  go_loop [4] (fun i => ∃ d : Nat, i = .int .i64 d ∧ (d = 0 ∨ d < n) ∧ ∀ i, i < d → L i < F) (fun i => n - (intOf i).toNat)
  case atStart => exact ⟨0, rfl, .inl rfl, fun i hi => by omega⟩
  case round =>
    obtain ⟨d, rfl, hd1, hd2⟩ := hrel
    have Hd2 : Hid (∀ i, i < d → L i < F) := hd2
    clear hd2
    have ways : (d + 1 < n ∧ L d < F) ∨ (d + 1 < n ∧ ¬ L d < F) ∨ ¬ d + 1 < n := by omega
    rcases ways with ⟨hdn, hL⟩ | ⟨hdn, hL⟩ | hdn
    · have g1' : (d : Int) < (n : Int) - 1 := by omega
      have cd : w.cell? ⟨B + 1, d * 2, none⟩ = some (.int .i64 (L d)) := by rw [h.slots.cell (i := d * 2) (by omega), prF_even]
      go_wp2
      go_round
      case rel =>
        refine ⟨d + 1, by go_num, .inr (by omega), fun i hi => ?_⟩
        by_cases e : i = d
        · subst e; exact hL
        · exact Hd2.out i (by omega)
      case measure => simp [intOf]; omega
    all_goals
      first
        | (have g1' : (d : Int) < (n : Int) - 1 := by omega
           have cd : w.cell? ⟨B + 1, d * 2, none⟩ = some (.int .i64 (L d)) := by rw [h.slots.cell (i := d * 2) (by omega), prF_even]
           have Hd3 : Hid (d + 1 < n → F ≤ L d) := fun _ => by omega)
        | (have g1 : decide ((d : Int) < (n : Int) - 1) = false := decide_eq_false (by omega)
           have Hd3 : Hid (d + 1 < n → F ≤ L d) := fun h => absurd h hdn)
      clear hdn
      go_wp2
      go_loopw [46] (fun i wr => ∃ k : Nat, ∃ S' Q', k ≤ m ∧ i = .int .i64 k ∧ TrimSt B n m l L C S' Q' (.slice (some ⟨B + 1, 0, none⟩) n n) wr ∧ DoneTo ((n : Int) - d) l S Q S' Q' k 0 ∧ Below B w wr ∧ B + 3 + m ≤ wr.heap.size) (fun i _ => m - (intOf i).toNat)
      case atStart => exact ⟨0, S, Q, by omega, rfl, h, doneTo_start _ _ _ _, Below.refl _ _, hsz⟩
      case round =>
        obtain ⟨k, S1, Q1, hk, rfl, hst, hdone, hbl, hsw⟩ := hrel
        by_cases hlt : k < m
        · obtain ⟨p, hp⟩ : ∃ p, wr.heap.size = p := ⟨_, rfl⟩
          have hct : ∀ j, j < 4 → wr.cell? ⟨B + 2, k * 4 + j, none⟩ = some (taF B l m (k * 4 + j)) := fun j hj => hst.tal.cell (by omega)
          have Hdone : Hid (DoneTo ((n : Int) - d) l S Q S1 Q1 k 0) := hdone
          have Hct : Hid (∀ j, j < 4 → wr.cell? ⟨B + 2, k * 4 + j, none⟩ = some (taF B l m (k * 4 + j))) := hct
          have hlk := hl k hlt
          have HSk : Hid (∀ j, j < l k → S k j ≤ n) := hS k hlt
          clear hct hdone
          go_wp2_with (first | (refine wpList_load_part rfl 53 (.tmp 48) rfl (B + 2) (k * 4) 4 (fun j => taF B l m (k * 4 + j)) rfl _ Hct.out Trym.underlying53 rfl Trym.info53s ?_) | (refine wpList_store_fresh rfl 53 (.tmp 7) (.tmp 49) rfl p 4 (fun j => taF B l m (k * 4 + j)) rfl rfl 53 _ hp Trym.info53s rfl (fun j _ => by unfold taF; split <;> (try split) <;> rfl) ?_; intro w1 hp1 hs1 hb1; have cp3 : w1.cell? ⟨p, 3, none⟩ = some (.slice (some ⟨B + 3 + k, 0, none⟩) (l k) (l k)) := (hp1.cell (i := 3) (by omega)).trans (congrArg some (taF_win B l m k hlt))))
          go_loopw [53] (fun i wq => ∃ j : Nat, ∃ S' Q', j ≤ l k ∧ i = .int .i64 j ∧ TrimSt B n m l L C S' Q' (.slice (some ⟨B + 1, 0, none⟩) n n) wq ∧ DoneTo ((n : Int) - d) l S Q S' Q' k j ∧ Below B w wq ∧ B + 3 + m ≤ p ∧ p < wq.heap.size ∧ wq.rowIs p 53 4 (fun j => taF B l m (k * 4 + j))) (fun i _ => l k - (intOf i).toNat)
          case atStart => exact ⟨0, S1, Q1, by omega, rfl, hst.below hb1 (by omega), Hdone.out, hbl.trans (hb1.mono (by omega)), by omega, by omega, hp1⟩
          case round =>
            clear hst hbl Hct Hdone hp1 hs1 hb1 cp3 hsw hp
            obtain ⟨j, S2, Q2, hj, rfl, hst, hdone, hbl, hpp, hsw, hp1⟩ := hrel
            by_cases hlt2 : j < l k
            · obtain ⟨q, hq⟩ : ∃ q, wr.heap.size = q := ⟨_, rfl⟩
              have eS : S2 k j = S k j := ((hdone k j).2 (.inr ⟨rfl, Nat.le_refl _⟩)).1
              have cp3 : wr.cell? ⟨p, 3, none⟩ = some (.slice (some ⟨B + 3 + k, 0, none⟩) (l k) (l k)) := (hp1.cell (i := 3) (by omega)).trans (congrArg some (taF_win B l m k hlt))
              have hcw : ∀ i, i < 2 → wr.cell? ⟨B + 3 + k, j * 2 + i, none⟩ = some (prF (S2 k) (Q2 k) (j * 2 + i)) := fun i hi => (hst.win k hlt).cell (by omega)
              have Hcw : Hid (∀ i, i < 2 → wr.cell? ⟨B + 3 + k, j * 2 + i, none⟩ = some (prF (S2 k) (Q2 k) (j * 2 + i))) := hcw
              have Hdone : Hid (DoneTo ((n : Int) - d) l S Q S2 Q2 k j) := hdone
              clear hcw hdone
              have ES : Hid (S2 k j = S k j) := eS
              clear eS
              by_cases hle : S k j ≤ (n : Int) - d
              · go_wp2_with (first | (refine wpList_load_part rfl 51 (.tmp 56) rfl (B + 3 + k) (j * 2) 2 (fun i => prF (S2 k) (Q2 k) (j * 2 + i)) rfl _ Hcw.out Trym.underlying51 rfl Trym.info51s ?_) | (refine wpList_store_fresh rfl 51 (.tmp 9) (.tmp 57) rfl q 2 (fun i => prF (S2 k) (Q2 k) (j * 2 + i)) rfl rfl 51 _ hq Trym.info51s rfl (fun j _ => rfl) ?_; intro w2 hp2 hs2 hb2; have cq0 : w2.cell? ⟨q, 0, none⟩ = some (.int .i64 (S k j)) := (hp2.cell (i := 0) (by omega)).trans (by rw [← ES.out, ← prF_even (S2 k) (Q2 k) j]; rfl)))
                go_roundw
                case rel => exact ⟨j + 1, S2, Q2, by omega, by go_num, hst.below hb2 (by omega), doneTo_skip Hdone.out hle, hbl.trans (hb2.mono (by omega)), hpp, by omega, below_row hb2 hp1 (by omega)⟩
                case measure => simp [intOf]; omega
              · obtain ⟨s, hs⟩ : ∃ s : Nat, S k j = s := ⟨(S k j).toNat, by omega⟩
                have hsn : s ≤ n := by have := HSk.out j hlt2; omega
                have Hs : Hid (S k j = s) := hs
                have hle2 : ¬ (s : Int) ≤ (n : Int) - d := by omega
                clear hle hs
                go_wp2_with (first | (refine wpList_load_part rfl 51 (.tmp 56) rfl (B + 3 + k) (j * 2) 2 (fun i => prF (S2 k) (Q2 k) (j * 2 + i)) rfl _ Hcw.out Trym.underlying51 rfl Trym.info51s ?_) | (refine wpList_store_fresh rfl 51 (.tmp 9) (.tmp 57) rfl q 2 (fun i => prF (S2 k) (Q2 k) (j * 2 + i)) rfl rfl 51 _ hq Trym.info51s rfl (fun j _ => rfl) ?_; intro w2 hp2 hs2 hb2; have cq0 : w2.cell? ⟨q, 0, none⟩ = some (.int .i64 (s : Int)) := (hp2.cell (i := 0) (by omega)).trans (by rw [← Hs.out, ← ES.out, ← prF_even (S2 k) (Q2 k) j]; rfl); have cb1 : w2.cell? ⟨B, 1, none⟩ = some (.slice (some ⟨B + 1, 0, none⟩) n n) := (hst.below hb2 (by omega)).box.cell (i := 1) (by omega)))
                go_quiet (fail)
                go_wp2
                go_loopw [77] (fun i wz => ∃ x : Nat, ∃ Q' : Nat → Nat → Int, x ≤ d - (n - s) ∧ i = .int .i64 x ∧ TrimSt B n m l L C S2 Q' (.slice (some ⟨B + 1, 0, none⟩) n n) wz ∧ (∀ t j', ¬ (t = k ∧ j' = j) → Q' t j' = Q2 t j') ∧ Below B w wz ∧ p < wz.heap.size ∧ wz.rowIs p 53 4 (fun j => taF B l m (k * 4 + j))) (fun i _ => d - (n - s) - (intOf i).toNat)
                case atStart => exact ⟨0, Q2, by omega, rfl, (hst.below hb2 (by omega)).drewN _, fun _ _ _ => rfl, hbl.trans ((hb2.mono (by omega)).trans ⟨rfl, rfl, rfl, Nat.le_refl _, fun _ _ => rfl⟩), by show p < w2.heap.size; omega, by exact (below_row (w1 := w2) hb2 hp1 (by omega))⟩
                case round =>
                  clear cq0 cb1 hp2 hs2 hb2 hst hbl hsw hp1 cp3 Hcw hq
                  obtain ⟨x, Q3, hx, rfl, hst, hq3, hbl, hsw, hp1⟩ := hrel
                  have Hq3 : Hid (∀ t j', ¬ (t = k ∧ j' = j) → Q3 t j' = Q2 t j') := hq3
                  clear hq3
                  have hdn' : d ≤ n := by omega
                  by_cases hlt3 : x < d - (n - s)
                  · obtain ⟨r, hr⟩ : ∃ r, wr.heap.size = r := ⟨_, rfl⟩
                    have hcs : ∀ i, i < 2 → wr.cell? ⟨B + 1, (n - s) * 2 + x * 2 + i, none⟩ = some (prF L C ((n - s) * 2 + x * 2 + i)) := fun i hi => hst.slots.cell (by omega)
                    have Hcs : Hid (∀ i, i < 2 → wr.cell? ⟨B + 1, (n - s) * 2 + x * 2 + i, none⟩ = some (prF L C ((n - s) * 2 + x * 2 + i))) := hcs
                    clear hcs
                    go_wp2_with (first | (refine wpList_load_part rfl 48 (.tmp 79) rfl (B + 1) ((n - s) * 2 + x * 2) 2 (fun i => prF L C ((n - s) * 2 + x * 2 + i)) rfl _ Hcs.out Trym.underlying48 rfl Trym.info48s ?_) | (refine wpList_store_fresh rfl 48 (.tmp 11) (.tmp 80) rfl r 2 (fun i => prF L C ((n - s) * 2 + x * 2 + i)) rfl rfl 48 _ hr Trym.info48s rfl (fun j _ => rfl) ?_; intro w3 hp3 hs3 hb3; dsimp only [Act.put]))
                    have hst3 := hst.below hb3 (by omega)
                    have cp3 : w3.cell? ⟨p, 3, none⟩ = some (.slice (some ⟨B + 3 + k, 0, none⟩) (l k) (l k)) := ((below_row hb3 hp1 (by omega)).cell (i := 3) (by omega)).trans (congrArg some (taF_win B l m k hlt))
                    have cw : w3.cell? ⟨B + 3 + k, j * 2 + 1, none⟩ = some (.int .i64 (Q3 k j)) := ((hst3.win k hlt).cell (by omega)).trans (congrArg some (prF_odd _ _ _))
                    have fw : w3.frozen? ⟨B + 3 + k, j * 2 + 1, none⟩ = false := (hst3.win k hlt).frozen _
                    have cr : w3.cell? ⟨r, 1, none⟩ = some (.int .i64 (C (n - s + x))) := (hp3.cell (i := 1) (by omega)).trans (by rw [← prF_odd L C (n - s + x)]; congr 2; omega)
                    have kj : (j : Int) < (l k : Int) := by omega
                    go_region
                    go_wp2
                    go_roundw
                    case rel => exact ⟨x + 1, upd2 Q3 k j _, by omega, by go_num, (hst3.setQ hlt ((hst3.win k hlt).set (j * 2 + 1) (.int .i64 _)) (only_setCell _ _ _ _)).drew, fun t j' hne => by rw [← Hq3.out t j' hne]; unfold upd2; rw [if_neg hne], hbl.trans ((hb3.mono (by omega)).trans ((only_setCell w3 (B + 3 + k) (j * 2 + 1) _).drew.below (by omega))), by rw [(only_setCell w3 (B + 3 + k) (j * 2 + 1) _).drew.size]; omega, (only_setCell w3 (B + 3 + k) (j * 2 + 1) _).drew.row (below_row hb3 hp1 (by omega)) (by omega)⟩
                    case measure => simp [intOf]; omega
                  · have cp3 : wr.cell? ⟨p, 3, none⟩ = some (.slice (some ⟨B + 3 + k, 0, none⟩) (l k) (l k)) := (hp1.cell (i := 3) (by omega)).trans (congrArg some (taF_win B l m k hlt))
                    go_wp2_with (refine wpList_store_cell rfl 3 (.tmp 98) (.tmp 96) rfl (B + 3 + k) (j * 2) (l k * 2) _ (.int .i64 ((n : Int) - d)) rfl rfl rfl 51 (hst.win k hlt) (by omega) Trym.info3s ?_; intro w4 hr4 ho4)
                    go_roundw
                    case rel => exact ⟨j + 1, upd2 S2 k j ((n : Int) - d), Q3, by omega, by go_num, hst.setS hlt hr4 ho4, doneTo_cut Hdone.out (by rw [Hs.out]; omega) Hq3.out, hbl.trans (ho4.below (by omega)), hpp, by rw [ho4.size]; exact hsw, ho4.row hp1 (by omega)⟩
                    case measure => simp [intOf]; omega
            · have hjl : j = l k := by omega
              have Hdone : Hid (DoneTo ((n : Int) - d) l S Q S2 Q2 (k + 1) 0) := doneTo_row (by rw [← hjl]; exact hdone)
              clear hdone hjl
              go_wp2
              go_roundw
              case rel => exact ⟨k + 1, S2, Q2, by omega, by go_num, hst, Hdone.out, hbl, by omega⟩
              case measure => simp [intOf]; omega
        · have hkm : k = m := by omega
          have Hdone : Hid (DoneTo ((n : Int) - d) l S Q S1 Q1 m 0) := by rw [← hkm]; exact hdone
          clear hdone hkm
          have cb1 : wr.cell? ⟨B, 1, none⟩ = some (.slice (some ⟨B + 1, 0, none⟩) n n) := hst.box.cell (i := 1) (by omega)
          have hdn'' : d ≤ n := by omega
          by_cases hnd : n = d
          · first
              | (exfalso; omega)
              | (have hd0 : d = 0 := by omega
                 subst hnd
                 subst hd0
                 go_wp2_with (refine wpList_store_cell rfl 43 (.tmp 109) (.tmp 107) rfl B 1 5 _ _ rfl rfl rfl 46 hst.box (by omega) Trym.info43s ?_; intro w4 hr4 ho4)
                 go_end0
                 exact ⟨rfl, 0, S1, Q1, .inl rfl, Hd2.out, Hd3.out, Hdone.out, hst.setSl hr4 ho4 rfl, hbl.trans (ho4.below (Nat.le_refl _))⟩)
          · go_wp2_with (refine wpList_store_cell rfl 43 (.tmp 109) (.tmp 107) rfl B 1 5 _ _ rfl rfl rfl 46 hst.box (by omega) Trym.info43s ?_; intro w4 hr4 ho4)
            go_end0
            exact ⟨rfl, d, S1, Q1, hd1, Hd2.out, Hd3.out, Hdone.out, hst.setSl hr4 ho4 rfl, hbl.trans (ho4.below (Nat.le_refl _))⟩
end Go.Proofs.Qxb6000921aMods
