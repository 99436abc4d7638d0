/-
  The contract of ZZTrim (19).
-/
import Derived.Test.Qxb6000921aModsTrim
namespace Go.Proofs.Qxb6000921aMods
open Go.RowKit

theorem Trym.info48 : (Trym.prog.info? 48).map (fun i => (i.zero, i.size, i.bytes)) = some (some (.agg #[.int .i64 0, .int .i64 0]), 2, 16) := by kernel_rfl
theorem Trym.info51 : (Trym.prog.info? 51).map (fun i => (i.zero, i.size, i.bytes)) = some (some (.agg #[.int .i64 0, .int .i64 0]), 2, 16) := by kernel_rfl
theorem Trym.info53 : (Trym.prog.info? 53).map (fun i => (i.zero, i.size, i.bytes)) = some (some (.agg #[.int .i64 0, .slice none 0 0, .int .i64 0, .slice none 0 0]), 4, 64) := by kernel_rfl
theorem Trym.info44s : (Trym.prog.info? 44).map (·.size) = some 1 := by kernel_rfl
theorem Trym.info49s : (Trym.prog.info? 49).map (·.size) = some 1 := by kernel_rfl

theorem made_pairs (i : Nat) : (Value.agg #[.int .i64 0, .int .i64 0]).cells[i % (Value.agg #[.int .i64 0, .int .i64 0]).cells.size]! = (fun _ => Value.int .i64 0) i := by
  have h : i % 2 = 0 ∨ i % 2 = 1 := by omega
  show (#[Value.int .i64 0, .int .i64 0] : Array Value)[i % 2]! = _
  rcases h with h | h <;> rw [h] <;> rfl
theorem made_tallies (B : Nat) (l : Nat → Nat) (i : Nat) : (Value.agg #[.int .i64 0, .slice none 0 0, .int .i64 0, .slice none 0 0]).cells[i % (Value.agg #[.int .i64 0, .slice none 0 0, .int .i64 0, .slice none 0 0]).cells.size]! = taF B l 0 i := by
  have h : i % 4 = 0 ∨ i % 4 = 1 ∨ i % 4 = 2 ∨ i % 4 = 3 := by omega
  show (#[Value.int .i64 0, .slice none 0 0, .int .i64 0, .slice none 0 0] : Array Value)[i % 4]! = _
  unfold taF
  rw [if_neg (show ¬ i / 4 < 0 by omega)]
  rcases h with h | h | h | h <;> rw [h] <;> rfl

/-- The struct as it is laid first. -/
theorem box_row (w w1 : World) (B : Nat) (hB : w.heap.size = B) (hb : Below (B + 1) (w.alloc (.cells #[.string ⟨#[]⟩, .slice none 0 0, .int .i64 0, .int .i64 0, .slice none 0 0] 46)) w1) : w1.rowIs B 46 5 (hdF (.slice none 0 0) (.slice none 0 0)) := by
  subst hB
  refine ⟨_, (hb.block _ (by omega)).trans (heap_alloc_new w _), rfl, fun i hi => ?_⟩
  have h : i = 0 ∨ i = 1 ∨ i = 2 ∨ i = 3 ∨ i = 4 := by omega
  rcases h with rfl | rfl | rfl | rfl | rfl <;> rfl

theorem hdF_set4 (v v' sl ta : Value) (j : Nat) (h : v = v') : (if j = 4 then v else hdF sl ta j) = hdF sl v' j := by
  rw [h]; unfold hdF
  by_cases e : j = 1
  · rw [if_neg (by omega), if_pos e, if_pos e]
  · rw [if_neg e, if_neg e]
    by_cases e4 : j = 4
    · rw [if_pos e4, if_pos e4]
    · rw [if_neg e4, if_neg e4, if_neg e4]

/-- A row of pairs, one pair more. -/
theorem prF_fill (x y : Nat → Int) (z : Value) (k i : Nat) : (if i = k * 2 + 1 then Value.int .i64 (y k) else if i = k * 2 then Value.int .i64 (x k) else if i < k * 2 then prF x y i else z) = if i < (k + 1) * 2 then prF x y i else z := by
  by_cases e1 : i = k * 2 + 1
  · rw [if_pos e1, if_pos (by omega), e1, prF_odd]
  · rw [if_neg e1]
    by_cases e2 : i = k * 2
    · rw [if_pos e2, if_pos (by omega), e2, prF_even]
    · rw [if_neg e2]
      by_cases e3 : i < k * 2
      · rw [if_pos e3, if_pos (by omega)]
      · rw [if_neg e3, if_neg (by omega)]
theorem taF_next (B : Nat) (l : Nat → Nat) (k i : Nat) : (if i = k * 4 + 3 then Value.slice (some ⟨B + 3 + k, 0, none⟩) (l k) (l k) else taF B l k i) = taF B l (k + 1) i := by
  unfold taF
  by_cases e : i = k * 4 + 3
  · have e4 : i / 4 = k := by omega
    rw [if_pos e, if_pos (by omega), e4, if_pos (by omega)]
  · rw [if_neg e]
    by_cases e3 : i % 4 = 3
    · rw [if_pos e3, if_pos e3]
      by_cases e5 : i / 4 < k
      · rw [if_pos e5, if_pos (by omega)]
      · rw [if_neg e5, if_neg (by omega)]
    · rw [if_neg e3, if_neg e3]

/-- The key while it is laid: k tallies have their windows. -/
structure KeySt (B n m : Nat) (l : Nat → Nat) (L C : Nat → Int) (S Q : Nat → Nat → Int) (k : Nat) (w : World) : Prop where
  box : w.rowIs B 46 5 (hdF (.slice (some ⟨B + 1, 0, none⟩) n n) (.slice (some ⟨B + 2, 0, none⟩) m m))
  slots : w.rowIs (B + 1) 48 (n * 2) (prF L C)
  tal : w.rowIs (B + 2) 53 (m * 4) (taF B l k)
  win : ∀ t, t < k → w.rowIs (B + 3 + t) 51 (l t * 2) (prF (S t) (Q t))
section
variable {B n m : Nat} {l : Nat → Nat} {L C : Nat → Int} {S Q : Nat → Nat → Int} {k : Nat} {w w1 : World}
theorem KeySt.below {D : Nat} (h : KeySt B n m l L C S Q k w) (hb : Below D w w1) (hD : B + 3 + k ≤ D) : KeySt B n m l L C S Q k w1 :=
  ⟨below_row hb h.box (by omega), below_row hb h.slots (by omega), below_row hb h.tal (by omega), fun t ht => below_row hb (h.win t ht) (by omega)⟩
theorem KeySt.only {g : Nat} (h : KeySt B n m l L C S Q k w) (ho : Only g w w1) (hg : B + 3 + k ≤ g) : KeySt B n m l L C S Q k w1 :=
  ⟨ho.row h.box (by omega), ho.row h.slots (by omega), ho.row h.tal (by omega), fun t ht => ho.row (h.win t ht) (by omega)⟩
theorem KeySt.next (h : KeySt B n m l L C S Q k w) (hr : w1.rowIs (B + 2) 53 (m * 4) (fun i => if i = k * 4 + 3 then Value.slice (some ⟨B + 3 + k, 0, none⟩) (l k) (l k) else taF B l k i)) (ho : Only (B + 2) w w1) (hw : w.rowIs (B + 3 + k) 51 (l k * 2) (prF (S k) (Q k))) : KeySt B n m l L C S Q (k + 1) w1 := by
  refine ⟨ho.row h.box (by omega), ho.row h.slots (by omega), hr.congr (fun i _ => taF_next B l k i), fun t ht => ?_⟩
  by_cases e : t = k
  · subst e; exact ho.row hw (by omega)
  · exact ho.row (h.win t (by omega)) (by omega)
theorem KeySt.key (h : KeySt B n m l L C S Q m w) : TrimSt B n m l L C S Q (.slice (some ⟨B + 1, 0, none⟩) n n) w := ⟨h.box, h.slots, h.tal, h.win⟩
end

/-- The rows of results: t below k: laid. -/
def outF (H c : Nat) (l : Nat → Nat) (k t : Nat) : Value := if t < k then .slice (some ⟨H + c + 2 * t, 0, none⟩) (l t) (l t) else .slice none 0 0
theorem outF_next (H c : Nat) (l : Nat → Nat) (k t : Nat) : (if t = k then Value.slice (some ⟨H + c + 2 * k, 0, none⟩) (l k) (l k) else outF H c l k t) = outF H c l (k + 1) t := by
  unfold outF
  by_cases e : t = k
  · subst e; rw [if_pos rfl, if_pos (by omega)]
  · rw [if_neg e]
    by_cases e' : t < k
    · rw [if_pos e', if_pos (by omega)]
    · rw [if_neg e', if_neg (by omega)]

/-- What ZZTrim builds behind trim: the new rows from H on; 'ks' outer slices laid, 'k' inner rows filled. -/
structure OutSt (B H n m : Nat) (l : Nat → Nat) (L C : Nat → Int) (S Q : Nat → Nat → Int) (d ks k : Nat) (w : World) : Prop where
  key : TrimSt B n m l L C S Q (.slice (some ⟨B + 1, d * 2, none⟩) (n - d) (n - d)) w
  oL : w.rowIs H 2 (n - d) (fun j => .int .i64 (L (d + j)))
  oC : w.rowIs (H + 1) 2 (n - d) (fun j => .int .i64 (C (d + j)))
  oS : w.rowIs (H + 2) 35 m (outF H 4 l ks)
  oP : w.rowIs (H + 3) 25 m (outF H 5 l ks)
  rows : ∀ t, t < k → w.rowIs (H + 4 + 2 * t) 3 (l t) (fun j => .int .i64 (S t j)) ∧ w.rowIs (H + 5 + 2 * t) 2 (l t) (fun j => .int .i64 (Q t j))
section
variable {B H n m : Nat} {l : Nat → Nat} {L C : Nat → Int} {S Q : Nat → Nat → Int} {d ks k : Nat} {w w1 : World}
theorem OutSt.below {D : Nat} (h : OutSt B H n m l L C S Q d ks k w) (hb : Below D w w1) (hH : B + 3 + m ≤ H) (hD : H + 4 + 2 * k ≤ D) : OutSt B H n m l L C S Q d ks k w1 :=
  ⟨h.key.below hb (by omega), below_row hb h.oL (by omega), below_row hb h.oC (by omega), below_row hb h.oS (by omega), below_row hb h.oP (by omega), fun t ht => ⟨below_row hb (h.rows t ht).1 (by omega), below_row hb (h.rows t ht).2 (by omega)⟩⟩
theorem TrimSt.only {sl : Value} {g : Nat} (h : TrimSt B n m l L C S Q sl w) (ho : Only g w w1) (hg : B + 3 + m ≤ g) : TrimSt B n m l L C S Q sl w1 :=
  ⟨ho.row h.box (by omega), ho.row h.slots (by omega), ho.row h.tal (by omega), fun t ht => ho.row (h.win t ht) (by omega)⟩
theorem OutSt.only {g : Nat} (h : OutSt B H n m l L C S Q d ks k w) (ho : Only g w w1) (hH : B + 3 + m ≤ H) (hg : H + 4 + 2 * k ≤ g) : OutSt B H n m l L C S Q d ks k w1 :=
  ⟨h.key.only ho (by omega), ho.row h.oL (by omega), ho.row h.oC (by omega), ho.row h.oS (by omega), ho.row h.oP (by omega), fun t ht => ⟨ho.row (h.rows t ht).1 (by omega), ho.row (h.rows t ht).2 (by omega)⟩⟩

theorem OutSt.lay {x : Nat} {z z' : Nat → Value} {wa wb wc wd : World} (h : OutSt B H n m l L C S Q d x x w) (hH : B + 3 + m ≤ H) (ha : Below (H + 4 + 2 * x) w wa) (hra : wa.rowIs (H + 4 + 2 * x) 3 (l x) z)
    (hb : wb.rowIs (H + 2) 35 m (fun t => if t = x then Value.slice (some ⟨H + 4 + 2 * x, 0, none⟩) (l x) (l x) else outF H 4 l x t)) (hob : Only (H + 2) wa wb) (hc : Below (H + 5 + 2 * x) wb wc) (hrc : wc.rowIs (H + 5 + 2 * x) 2 (l x) z')
    (hd : wd.rowIs (H + 3) 25 m (fun t => if t = x then Value.slice (some ⟨H + 5 + 2 * x, 0, none⟩) (l x) (l x) else outF H 5 l x t)) (hod : Only (H + 3) wc wd) :
    OutSt B H n m l L C S Q d (x + 1) x wd ∧ wd.rowIs (H + 4 + 2 * x) 3 (l x) z ∧ wd.rowIs (H + 5 + 2 * x) 2 (l x) z' := by
  have ho := h.below ha hH (by omega)
  have go : ∀ {b n : Nat} {t : TypeId} {f : Nat → Value}, wa.rowIs b t n f → b ≠ H + 2 → b ≠ H + 3 → b < H + 5 + 2 * x → wd.rowIs b t n f := fun r e1 e2 e3 => hod.row (below_row hc (hob.row r e1) e3) e2
  refine ⟨⟨⟨go ho.key.box (by omega) (by omega) (by omega), go ho.key.slots (by omega) (by omega) (by omega), go ho.key.tal (by omega) (by omega) (by omega), fun t ht => go (ho.key.win t ht) (by omega) (by omega) (by omega)⟩, go ho.oL (by omega) (by omega) (by omega), go ho.oC (by omega) (by omega) (by omega), ?_, ?_, fun t ht => ⟨go (ho.rows t ht).1 (by omega) (by omega) (by omega), go (ho.rows t ht).2 (by omega) (by omega) (by omega)⟩⟩, go hra (by omega) (by omega) (by omega), hod.row hrc (by omega)⟩
  · exact (hod.row (below_row hc hb (by omega)) (by omega)).congr (fun t _ => outF_next H 4 l x t)
  · exact hd.congr (fun t _ => outF_next H 5 l x t)
theorem OutSt.filled {x : Nat} (h : OutSt B H n m l L C S Q d ks x w) (h1 : w.rowIs (H + 4 + 2 * x) 3 (l x) (fun j => .int .i64 (S x j))) (h2 : w.rowIs (H + 5 + 2 * x) 2 (l x) (fun j => .int .i64 (Q x j))) : OutSt B H n m l L C S Q d ks (x + 1) w := by
  refine ⟨h.key, h.oL, h.oC, h.oS, h.oP, fun t ht => ?_⟩
  by_cases e : t = x
  · subst e; exact ⟨h1, h2⟩
  · exact h.rows t (by omega)
theorem OutSt.mats (h : OutSt B H n m l L C S Q d m m w) : MatAt 0 w (.slice (some ⟨H + 2, 0, none⟩) m m) m l S ∧ MatAt 0 w (.slice (some ⟨H + 3, 0, none⟩) m m) m l Q := by
  refine ⟨⟨outF H 4 l m, (slcAt_row h.oS).mono (Nat.zero_le _), fun t ht => ?_⟩, ⟨outF H 5 l m, (slcAt_row h.oP).mono (Nat.zero_le _), fun t ht => ?_⟩⟩
  · unfold outF; rw [if_pos ht]; exact (slcAt_row (h.rows t ht).1).mono (Nat.zero_le _)
  · unfold outF; rw [if_pos ht]; exact (slcAt_row (h.rows t ht).2).mono (Nat.zero_le _)
end

/-- A row of numbers, one number more. -/
theorem fill_next (x : Nat → Int) (k j : Nat) : (if j = k then Value.int .i64 (x k) else Value.int .i64 (if j < k then x j else 0)) = Value.int .i64 (if j < k + 1 then x j else 0) := by
  by_cases e : j = k
  · subst e; simp
  · rw [if_neg e]
    by_cases e' : j < k
    · rw [if_pos e', if_pos (by omega)]
    · rw [if_neg e', if_neg (by omega)]

/-- What ZZTrim hands back. -/
def ZzPost (n m : Nat) (l : Nat → Nat) (L C : Nat → Int) (S Q : Nat → Nat → Int) (F : Int) (w : World) (e : Ending) (w' : World) : Prop :=
  ∃ v0 v1 v2 v3 d S' Q', e = .returned (.tuple #[v0, v1, v2, v3]) ∧ (d = 0 ∨ d < n) ∧ (∀ i, i < d → L i < F) ∧ (d + 1 < n → F ≤ L d) ∧ DoneTo ((n : Int) - d) l S Q S' Q' m 0 ∧
    SlcAt 0 w' v0 (n - d) (fun j => .int .i64 (L (d + j))) ∧ SlcAt 0 w' v1 (n - d) (fun j => .int .i64 (C (d + j))) ∧ MatAt 0 w' v2 m l S' ∧ MatAt 0 w' v3 m l Q' ∧ Below w.heap.size w w'

set_option maxRecDepth 100000 in
set_option maxHeartbeats 4000000 in
theorem zz_any (lo n m : Nat) (l : Nat → Nat) (L C : Nat → Int) (S Q : Nat → Nat → Int) (F : Int) (v0 v1 v2 v3 : Value) (w : World) (h0 : SlcAt lo w v0 n (fun j => .int .i64 (L j))) (h1 : SlcAt lo w v1 n (fun j => .int .i64 (C j))) (h2 : MatAt lo w v2 m l S) (h3 : MatAt lo w v3 m l Q)
    (hn : n ≤ 131072) (hm : m ≤ 131072) (hl : ∀ t, t < m → l t ≤ 131072) (hS : ∀ t, t < m → ∀ j, j < l t → S t j ≤ n) :
    Calls Trym.prog 19 #[v0, v1, v2, v3, .int .i64 F] w fun e w' => ZzPost n m l L C S Q F w e w' := by
  obtain ⟨B, hB⟩ : ∃ B, w.heap.size = B := ⟨_, rfl⟩
  have Hl : Hid (∀ t, t < m → l t ≤ 131072) := hl
  have HS : Hid (∀ t, t < m → ∀ j, j < l t → S t j ≤ n) := hS
  have H2 : Hid (MatAt lo w v2 m l S) := h2
  have H3 : Hid (MatAt lo w v3 m l Q) := h3
  obtain ⟨a0, c0, rfl, h0⟩ := h0
  obtain ⟨a1, c1, rfl, h1⟩ := h1
  obtain ⟨V, ⟨a2, c2, rfl, h2⟩, hV⟩ := h2
  obtain ⟨U, ⟨a3, c3, rfl, h3⟩, hU⟩ := h3
  clear hl hS
  go_enter Trym.func19, Trym.ntmps19
  go_wp2_with (first | (refine wpList_make_wide _ rfl (.tmp 31) (.tmp 31) 43 rfl 48 (.agg #[.int .i64 0, .int .i64 0]) 2 16 Trym.underlying43 Trym.info48 _ made_pairs .i64 .i64 n rfl rfl (by omega) (by omega) (B + 1) (by simp [hB]) ?_; intro w1 hr1 hs1 hb1; have hx1 := box_row w w1 B hB hb1; have hbB : Below B w w1 := (by exact ((Below.refl B w).alloc (by omega) _).trans (hb1.mono (by omega))); clear hb1) | (refine wpList_store_cell rfl 43 (.tmp 34) (.tmp 32) rfl B 1 5 _ (.slice (some ⟨B + 1, 0, none⟩) n n) rfl rfl rfl 46 hx1 (by omega) Trym.info43s ?_; intro w2 hx2 ho2))
  go_loopw [15] (fun i wr => ∃ k : Nat, k ≤ n ∧ i = .int .i64 k ∧ wr.rowIs B 46 5 (hdF (.slice (some ⟨B + 1, 0, none⟩) n n) (.slice none 0 0)) ∧ wr.rowIs (B + 1) 48 (n * 2) (fun i => if i < k * 2 then prF L C i else .int .i64 0) ∧ Below B w wr ∧ wr.heap.size = B + 2) (fun i _ => n - (intOf i).toNat)
  case atStart => exact ⟨0, by omega, rfl, hx2.congr (fun j _ => hdF_set _ _ _ _ j rfl), (ho2.row hr1 (by omega)).congr (fun i _ => by rw [if_neg (by omega)]), hbB.trans (ho2.below (Nat.le_refl _)), ho2.size.trans hs1⟩
  case round =>
    clear hx1 hr1 hs1 hbB hx2 ho2
    obtain ⟨k, hk, rfl, hx, hr, hbl, hsz⟩ := hrel
    by_cases hlt : k < n
    · obtain ⟨b0, o0, rfl, _, hc0⟩ := h0 (by omega)
      obtain ⟨b1, o1, rfl, _, hc1⟩ := h1 (by omega)
      have hb0 : b0 < B := by have := block_lt_of_cell (hc0 k hlt); rw [hB] at this; exact this
      have hb1 : b1 < B := by have := block_lt_of_cell (hc1 k hlt); rw [hB] at this; exact this
      have k0 : wr.cell? ⟨b0, o0 + k, none⟩ = some (.int .i64 (L k)) := (hbl.cell (p := ⟨b0, o0 + k, none⟩) hb0).trans (hc0 k hlt)
      have k1 : wr.cell? ⟨b1, o1 + k, none⟩ = some (.int .i64 (C k)) := (hbl.cell (p := ⟨b1, o1 + k, none⟩) hb1).trans (hc1 k hlt)
      have cb1 : wr.cell? ⟨B, 1, none⟩ = some (.slice (some ⟨B + 1, 0, none⟩) n n) := hx.cell (i := 1) (by omega)
      have s0 : wr.cell? ⟨B + 1, k * 2, none⟩ = some (.int .i64 0) := (hr.cell (i := k * 2) (by omega)).trans (by rw [if_neg (by omega)])
      have s1 : wr.cell? ⟨B + 1, k * 2 + 1, none⟩ = some (.int .i64 0) := (hr.cell (i := k * 2 + 1) (by omega)).trans (by rw [if_neg (by omega)])
      have f0 := hr.frozen (k * 2)
      have f1 := hr.frozen (k * 2 + 1)
      have kn : (k : Int) < (n : Int) := by omega
      clear hc0 hc1 h0 h1 h2 h3 hV hU
      go_wp2
      go_region
      go_wp2
      have ho := ((only_setCell wr (B + 1) (k * 2) (.int .i64 (L k))).trans (only_setCell _ (B + 1) (k * 2 + 1) (.int .i64 (C k)))).drew
      go_roundw
      case rel => exact ⟨k + 1, by omega, by go_num, ho.row hx (by omega), (((hr.set (k * 2) _).set (k * 2 + 1) _).congr (fun i _ => prF_fill L C _ k i)).drew, hbl.trans (ho.below (by omega)), ho.size.trans hsz⟩
      case measure => simp [intOf]; omega
    · have hkn : k = n := by omega
      subst hkn
      have hr0 : wr.rowIs (B + 1) 48 (k * 2) (prF L C) := hr.congr (fun i hi => by rw [if_pos hi])
      clear hr h0 h1
      go_wp2_with (first | (refine wpList_make_wide _ rfl (.tmp 58) (.tmp 58) 44 rfl 53 (.agg #[.int .i64 0, .slice none 0 0, .int .i64 0, .slice none 0 0]) 4 64 Trym.underlying44 Trym.info53 (taF B l 0) (made_tallies B l) .i64 .i64 m rfl rfl (by omega) (by omega) (B + 2) hsz ?_; intro w3 hr3 hs3 hb3) | (refine wpList_store_cell rfl 44 (.tmp 61) (.tmp 59) rfl B 4 5 _ (.slice (some ⟨B + 2, 0, none⟩) m m) rfl rfl rfl 46 (below_row hb3 hx (by omega)) (by omega) Trym.info44s ?_; intro w4 hx4 ho4))
      go_loopw [16] (fun i wr => ∃ t : Nat, t ≤ m ∧ i = .int .i64 t ∧ KeySt B k m l L C S Q t wr ∧ Below B w wr ∧ wr.heap.size = B + 3 + t) (fun i _ => m - (intOf i).toNat)
      case atStart => exact ⟨0, by omega, rfl, ⟨hx4.congr (fun j _ => hdF_set4 _ _ _ _ j rfl), ho4.row (below_row hb3 hr0 (by omega)) (by omega), ho4.row hr3 (by omega), fun t ht => by omega⟩, hbl.trans ((hb3.mono (by omega)).trans (ho4.below (Nat.le_refl _))), ho4.size.trans hs3⟩
      case round =>
        clear hx4 ho4 hr3 hs3 hb3 hr0 hbl hsz hx
        obtain ⟨t, ht, rfl, hkey, hbl, hsz⟩ := hrel
        by_cases hlt2 : t < m
        · obtain ⟨b2, o2, rfl, _, hc2⟩ := h2 (by omega)
          obtain ⟨b3, o3, rfl, _, hc3⟩ := h3 (by omega)
          have hb2 : b2 < B := by have := block_lt_of_cell (hc2 t hlt2); rw [hB] at this; exact this
          have hb3 : b3 < B := by have := block_lt_of_cell (hc3 t hlt2); rw [hB] at this; exact this
          obtain ⟨az, cz, hvs, hin⟩ := hV t hlt2
          obtain ⟨aq, cq, huq, hiq⟩ := hU t hlt2
          have k2 : wr.cell? ⟨b2, o2 + t, none⟩ = some (.slice az (l t) cz) := (hbl.cell (p := ⟨b2, o2 + t, none⟩) hb2).trans ((hc2 t hlt2).trans (congrArg some hvs))
          have K2 : Hid (w.cell? ⟨b2, o2 + t, none⟩ = some (.slice az (l t) cz)) := (hc2 t hlt2).trans (congrArg some hvs)
          have K3 : Hid (w.cell? ⟨b3, o3 + t, none⟩ = some (.slice aq (l t) cq)) := (hc3 t hlt2).trans (congrArg some huq)
          have hlt' := Hl.out t hlt2
          clear hc2 hc3 hvs huq h2 h3 hV hU
          go_wp2_with (refine wpList_make_wide _ rfl (.tmp 72) (.tmp 72) 49 rfl 51 (.agg #[.int .i64 0, .int .i64 0]) 2 16 Trym.underlying49 Trym.info51 _ made_pairs .i64 .i64 (l t) rfl rfl (by omega) (by omega) (B + 3 + t) hsz ?_; intro w5 hr5 hs5 hb5)
          go_loopw [18] (fun i wz => ∃ j : Nat, j ≤ l t ∧ i = .int .i64 j ∧ KeySt B k m l L C S Q t wz ∧ wz.rowIs (B + 3 + t) 51 (l t * 2) (fun i => if i < j * 2 then prF (S t) (Q t) i else .int .i64 0) ∧ Below B w wz ∧ wz.heap.size = B + 3 + t + 1) (fun i _ => l t - (intOf i).toNat)
          case atStart => exact ⟨0, by omega, rfl, hkey.below hb5 (by omega), hr5.congr (fun i _ => by rw [if_neg (by omega)]), hbl.trans (hb5.mono (by omega)), hs5⟩
          case round =>
            clear hkey hb5 hr5 hbl hs5 hsz k2
            obtain ⟨j, hj, rfl, hkey, hr, hbl, hsz⟩ := hrel
            by_cases hlt3 : j < l t
            · obtain ⟨bs, os, rfl, _, hcs⟩ := hin (by omega)
              obtain ⟨bq, oq, rfl, _, hcq⟩ := hiq (by omega)
              have hbs : bs < B := by have := block_lt_of_cell (hcs j hlt3); rw [hB] at this; exact this
              have hbq : bq < B := by have := block_lt_of_cell (hcq j hlt3); rw [hB] at this; exact this
              have k2 : wr.cell? ⟨b2, o2 + t, none⟩ = some (.slice (some ⟨bs, os, none⟩) (l t) cz) := (hbl.cell (p := ⟨b2, o2 + t, none⟩) hb2).trans K2.out
              have k3 : wr.cell? ⟨b3, o3 + t, none⟩ = some (.slice (some ⟨bq, oq, none⟩) (l t) cq) := (hbl.cell (p := ⟨b3, o3 + t, none⟩) hb3).trans K3.out
              have ks : wr.cell? ⟨bs, os + j, none⟩ = some (.int .i64 (S t j)) := (hbl.cell (p := ⟨bs, os + j, none⟩) hbs).trans (hcs j hlt3)
              have kq : wr.cell? ⟨bq, oq + j, none⟩ = some (.int .i64 (Q t j)) := (hbl.cell (p := ⟨bq, oq + j, none⟩) hbq).trans (hcq j hlt3)
              have s0 : wr.cell? ⟨B + 3 + t, j * 2, none⟩ = some (.int .i64 0) := (hr.cell (i := j * 2) (by omega)).trans (by rw [if_neg (by omega)])
              have s1 : wr.cell? ⟨B + 3 + t, j * 2 + 1, none⟩ = some (.int .i64 0) := (hr.cell (i := j * 2 + 1) (by omega)).trans (by rw [if_neg (by omega)])
              have f0 := hr.frozen (j * 2)
              have f1 := hr.frozen (j * 2 + 1)
              have kn : (j : Int) < (l t : Int) := by omega
              have tn : (t : Int) < (m : Int) := by omega
              clear hcs hcq hin hiq
              go_wp2
              go_region
              go_wp2
              have ho := ((only_setCell wr (B + 3 + t) (j * 2) (.int .i64 (S t j))).trans (only_setCell _ (B + 3 + t) (j * 2 + 1) (.int .i64 (Q t j)))).drew
              go_roundw
              case rel => exact ⟨j + 1, by omega, by go_num, hkey.only ho (by omega), (((hr.set (j * 2) _).set (j * 2 + 1) _).congr (fun i _ => prF_fill (S t) (Q t) _ j i)).drew, hbl.trans (ho.below (by omega)), ho.size.trans hsz⟩
              case measure => simp [intOf]; omega
            · have hjl : j = l t := by omega
              have hr0 : wr.rowIs (B + 3 + t) 51 (l t * 2) (prF (S t) (Q t)) := hr.congr (fun i hi => by rw [hjl, if_pos hi])
              have cb4 : wr.cell? ⟨B, 4, none⟩ = some (.slice (some ⟨B + 2, 0, none⟩) m m) := hkey.box.cell (i := 4) (by omega)
              have tn : (t : Int) < (m : Int) := by omega
              clear hr hjl hin hiq
              go_wp2_with (refine wpList_store_cell rfl 49 (.tmp 105) (.tmp 103) rfl (B + 2) (t * 4 + 3) (m * 4) _ (.slice (some ⟨B + 3 + t, 0, none⟩) (l t) (l t)) rfl rfl rfl 53 hkey.tal (by omega) Trym.info49s ?_; intro w6 hr6 ho6)
              go_roundw
              case rel => exact ⟨t + 1, by omega, by go_num, hkey.next hr6 ho6 hr0, hbl.trans (ho6.below (by omega)), by rw [ho6.size, hsz]; omega⟩
              case measure => simp [intOf]; omega
        · have htm : t = m := by omega
          subst htm
          have hst := hkey.key
          clear hkey h2 h3 hV hU
          go_wp2_with (first | (go_at_call 27; refine (trim_any B k t l L C S Q F wr hst hn hm Hl.out HS.out (by omega)).mono ?_; rintro e w7 ⟨rfl, d, S1, Q1, hd1, hd2, hd3, hdone, hst7, hb7⟩; have Hd2 : Hid (∀ i, i < d → L i < F) := hd2; have Hd3 : Hid (d + 1 < k → F ≤ L d) := hd3; have Hdone : Hid (DoneTo ((k : Int) - d) l S Q S1 Q1 t 0) := hdone; clear hd2 hd3 hdone; obtain ⟨H, hH⟩ : ∃ H, w7.heap.size = H := ⟨_, rfl⟩; have hHB : B + 3 + t ≤ H := (by have := hb7.size; omega); have cb1 : w7.cell? ⟨B, 1, none⟩ = some (.slice (some ⟨B + 1, d * 2, none⟩) (k - d) (k - d)) := hst7.box.cell (i := 1) (by omega)) | (refine wpList_make_named _ rfl (.tmp 113) (.tmp 113) 25 rfl 2 (.int .i64 0) 8 Trym.underlying25 Trym.info2 rfl .i64 .i64 (k - d) rfl rfl (by omega) (by omega) H hH ?_; intro w8 hr8 hs8 hb8; have cb8 : w8.cell? ⟨B, 1, none⟩ = some (.slice (some ⟨B + 1, d * 2, none⟩) (k - d) (k - d)) := (hst7.below hb8 hHB).box.cell (i := 1) (by omega)) | (refine wpList_make_named _ rfl (.tmp 119) (.tmp 119) 25 rfl 2 (.int .i64 0) 8 Trym.underlying25 Trym.info2 rfl .i64 .i64 (k - d) rfl rfl (by omega) (by omega) (H + 1) hs8 ?_; intro w9 hr9 hs9 hb9))
          go_loopw [21] (fun i wr => ∃ x : Nat, x ≤ k - d ∧ i = .int .i64 x ∧ TrimSt B k t l L C S1 Q1 (.slice (some ⟨B + 1, d * 2, none⟩) (k - d) (k - d)) wr ∧ wr.rowIs H 2 (k - d) (fun j => .int .i64 (if j < x then L (d + j) else 0)) ∧ wr.rowIs (H + 1) 2 (k - d) (fun j => .int .i64 (if j < x then C (d + j) else 0)) ∧ Below B w wr ∧ wr.heap.size = H + 2) (fun i _ => k - d - (intOf i).toNat)
          case atStart => exact ⟨0, by omega, rfl, (hst7.below hb8 hHB).below hb9 (by omega), (below_row hb9 hr8 (by omega)).congr (fun j _ => by rw [if_neg (by omega)]), hr9.congr (fun j _ => by rw [if_neg (by omega)]), hbl.trans (hb7.trans ((hb8.mono (by omega)).trans (hb9.mono (by omega)))), hs9⟩
          case round =>
            clear hst hbl hsz hst7 hb7 hH cb1 hr8 hs8 hb8 cb8 hr9 hs9 hb9
            obtain ⟨x, hx, rfl, hst, hrL, hrC, hbl, hsz⟩ := hrel
            by_cases hlt4 : x < k - d
            · have cb1 : wr.cell? ⟨B, 1, none⟩ = some (.slice (some ⟨B + 1, d * 2, none⟩) (k - d) (k - d)) := hst.box.cell (i := 1) (by omega)
              have cs0 : wr.cell? ⟨B + 1, d * 2 + x * 2, none⟩ = some (.int .i64 (L (d + x))) := (hst.slots.cell (i := d * 2 + x * 2) (by omega)).trans (by rw [← prF_even L C (d + x)]; congr 2; omega)
              go_wp2_with (first | (refine wpList_store_cell rfl 2 (.tmp 140) (.tmp 139) rfl H x (k - d) _ (.int .i64 (L (d + x))) rfl rfl rfl 2 hrL (by omega) Trym.info2s ?_; intro wa hra hoa; have hsta := hst.only hoa (by omega); have cba : wa.cell? ⟨B, 1, none⟩ = some (.slice (some ⟨B + 1, d * 2, none⟩) (k - d) (k - d)) := hsta.box.cell (i := 1) (by omega); have csa : wa.cell? ⟨B + 1, d * 2 + x * 2 + 1, none⟩ = some (.int .i64 (C (d + x))) := (hsta.slots.cell (i := d * 2 + x * 2 + 1) (by omega)).trans (by rw [← prF_odd L C (d + x)]; congr 2; omega)) | (refine wpList_store_cell rfl 2 (.tmp 151) (.tmp 150) rfl (H + 1) x (k - d) _ (.int .i64 (C (d + x))) rfl rfl rfl 2 (hoa.row hrC (by omega)) (by omega) Trym.info2s ?_; intro wb hrb hob))
              go_roundw
              case rel => exact ⟨x + 1, by omega, by go_num, hsta.only hob (by omega), (hob.row hra (by omega)).congr (fun j _ => fill_next (fun j => L (d + j)) x j), hrb.congr (fun j _ => fill_next (fun j => C (d + j)) x j), hbl.trans ((hoa.below (by omega)).trans (hob.below (by omega))), by rw [hob.size, hoa.size, hsz]⟩
              case measure => simp [intOf]; omega
            · have hxe : x = k - d := by omega
              have hL0 : wr.rowIs H 2 (k - d) (fun j => .int .i64 (L (d + j))) := hrL.congr (fun j hj => by rw [hxe, if_pos hj])
              have hC0 : wr.rowIs (H + 1) 2 (k - d) (fun j => .int .i64 (C (d + j))) := hrC.congr (fun j hj => by rw [hxe, if_pos hj])
              clear hrL hrC hxe
              have cb1 : wr.cell? ⟨B, 1, none⟩ = some (.slice (some ⟨B + 1, d * 2, none⟩) (k - d) (k - d)) := hst.box.cell (i := 1) (by omega)
              have cb4 : wr.cell? ⟨B, 4, none⟩ = some (.slice (some ⟨B + 2, 0, none⟩) t t) := hst.box.cell (i := 4) (by omega)
              go_wp2_with (first | (refine wpList_make_named _ rfl (.tmp 156) (.tmp 156) 26 rfl 35 (.slice none 0 0) 24 Trym.underlying26 Trym.info35 rfl .i64 .i64 t rfl rfl (by omega) (by omega) (H + 2) hsz ?_; intro wa hra hsa hba; have cb4a : wa.cell? ⟨B, 4, none⟩ = some (.slice (some ⟨B + 2, 0, none⟩) t t) := (hst.below hba (by omega)).box.cell (i := 4) (by omega)) | (refine wpList_make_named _ rfl (.tmp 162) (.tmp 162) 27 rfl 25 (.slice none 0 0) 24 Trym.underlying27 Trym.info25 rfl .i64 .i64 t rfl rfl (by omega) (by omega) (H + 3) hsa ?_; intro wb hrb hsb hbb))
              go_loopw [24] (fun i wr => ∃ x : Nat, x ≤ t ∧ i = .int .i64 x ∧ OutSt B H k t l L C S1 Q1 d x x wr ∧ Below B w wr ∧ wr.heap.size = H + 4 + 2 * x) (fun i _ => t - (intOf i).toNat)
              case atStart => exact ⟨0, by omega, rfl, ⟨(hst.below hba (by omega)).below hbb (by omega), below_row hbb (below_row hba hL0 (by omega)) (by omega), below_row hbb (below_row hba hC0 (by omega)) (by omega), (below_row hbb hra (by omega)).congr (fun j _ => by unfold outF; rw [if_neg (by omega)]), hrb.congr (fun j _ => by unfold outF; rw [if_neg (by omega)]), fun j hj => by omega⟩, hbl.trans ((hba.mono (by omega)).trans (hbb.mono (by omega))), hsb⟩
              case round =>
                clear hst hbl hsz hL0 hC0 cb1 cb4 hra hsa hba cb4a hrb hsb hbb
                obtain ⟨x, hx, rfl, hout, hbl, hsz⟩ := hrel
                by_cases hlt5 : x < t
                · have cb4 : wr.cell? ⟨B, 4, none⟩ = some (.slice (some ⟨B + 2, 0, none⟩) t t) := hout.key.box.cell (i := 4) (by omega)
                  have ct : wr.cell? ⟨B + 2, x * 4 + 3, none⟩ = some (.slice (some ⟨B + 3 + x, 0, none⟩) (l x) (l x)) := (hout.key.tal.cell (i := x * 4 + 3) (by omega)).trans (congrArg some (taF_win B l t x hlt5))
                  have hlx := Hl.out x hlt5
                  have xn : (x : Int) < (t : Int) := by omega
                  go_wp2_with (first | (refine wpList_make_named _ rfl (.tmp 184) (.tmp 184) 35 rfl 3 (.int .i64 0) 8 Trym.underlying35 Trym.info3 rfl .i64 .i64 (l x) rfl rfl (by omega) (by omega) (H + 4 + 2 * x) hsz ?_; intro wa hra hsa hba) | (refine wpList_store_cell rfl 35 (.tmp 186) (.tmp 185) rfl (H + 2) x t _ (.slice (some ⟨H + 4 + 2 * x, 0, none⟩) (l x) (l x)) rfl rfl rfl 35 (below_row hba hout.oS (by omega)) hlt5 Trym.info35s ?_; intro wb hrb hob; have hsb : wb.heap.size = H + 5 + 2 * x := (by rw [hob.size, hsa]; omega)) | (refine wpList_make_named _ rfl (.tmp 190) (.tmp 190) 25 rfl 2 (.int .i64 0) 8 Trym.underlying25 Trym.info2 rfl .i64 .i64 (l x) rfl rfl (by omega) (by omega) (H + 5 + 2 * x) hsb ?_; intro wc hrc hsc hbc) | (refine wpList_store_cell rfl 25 (.tmp 192) (.tmp 191) rfl (H + 3) x t _ (.slice (some ⟨H + 5 + 2 * x, 0, none⟩) (l x) (l x)) rfl rfl rfl 25 (below_row hbc (hob.row (below_row hba hout.oP (by omega)) (by omega)) (by omega)) hlt5 Trym.info25s ?_; intro wd hrd hod))
                  go_loopw [26] (fun i wz => ∃ j : Nat, j ≤ l x ∧ i = .int .i64 j ∧ OutSt B H k t l L C S1 Q1 d (x + 1) x wz ∧ wz.rowIs (H + 4 + 2 * x) 3 (l x) (fun i => .int .i64 (if i < j then S1 x i else 0)) ∧ wz.rowIs (H + 5 + 2 * x) 2 (l x) (fun i => .int .i64 (if i < j then Q1 x i else 0)) ∧ Below B w wz ∧ wz.heap.size = H + 6 + 2 * x) (fun i _ => l x - (intOf i).toNat)
                  case atStart =>
                    have q := hout.lay hHB hba hra hrb hob hbc hrc hrd hod
                    exact ⟨0, by omega, rfl, q.1, q.2.1.congr (fun i _ => by rw [if_neg (by omega)]), q.2.2.congr (fun i _ => by rw [if_neg (by omega)]), hbl.trans (((hba.mono (by omega)).trans (hob.below (by omega))).trans ((hbc.mono (by omega)).trans (hod.below (by omega)))), by rw [hod.size, hsc]; omega⟩
                  case round =>
                    clear hout hbl hsz cb4 ct hra hsa hba hrb hob hsb hrc hsc hbc hrd hod
                    obtain ⟨j, hj, rfl, hout, hrS, hrQ, hbl, hsz⟩ := hrel
                    by_cases hlt6 : j < l x
                    · have oS : wr.cell? ⟨H + 2, x, none⟩ = some (.slice (some ⟨H + 4 + 2 * x, 0, none⟩) (l x) (l x)) := (hout.oS.cell (i := x) hlt5).trans (by unfold outF; rw [if_pos (by omega)])
                      have oP : wr.cell? ⟨H + 3, x, none⟩ = some (.slice (some ⟨H + 5 + 2 * x, 0, none⟩) (l x) (l x)) := (hout.oP.cell (i := x) hlt5).trans (by unfold outF; rw [if_pos (by omega)])
                      have w0 : wr.cell? ⟨B + 3 + x, j * 2, none⟩ = some (.int .i64 (S1 x j)) := ((hout.key.win x hlt5).cell (i := j * 2) (by omega)).trans (congrArg some (prF_even _ _ _))
                      have w1 : wr.cell? ⟨B + 3 + x, j * 2 + 1, none⟩ = some (.int .i64 (Q1 x j)) := ((hout.key.win x hlt5).cell (i := j * 2 + 1) (by omega)).trans (congrArg some (prF_odd _ _ _))
                      have t0 : wr.cell? ⟨H + 4 + 2 * x, j, none⟩ = some (.int .i64 0) := (hrS.cell (i := j) hlt6).trans (by rw [if_neg (by omega)])
                      have t1 : wr.cell? ⟨H + 5 + 2 * x, j, none⟩ = some (.int .i64 0) := (hrQ.cell (i := j) hlt6).trans (by rw [if_neg (by omega)])
                      have f0 := hrS.frozen j
                      have f1 := hrQ.frozen j
                      have xn : (x : Int) < (t : Int) := by omega
                      have jn : (j : Int) < (l x : Int) := by omega
                      go_wp2
                      go_region
                      generalize hwy : (wr.setCell ⟨H + 4 + 2 * x, j, none⟩ (.int .i64 (S1 x j))).drew = wy
                      have hoy : Only (H + 4 + 2 * x) wr wy := by rw [← hwy]; exact (only_setCell wr (H + 4 + 2 * x) j (.int .i64 (S1 x j))).drew
                      have hrSy : wy.rowIs (H + 4 + 2 * x) 3 (l x) (fun i => .int .i64 (if i < j + 1 then S1 x i else 0)) := by rw [← hwy]; exact ((hrS.set j (.int .i64 (S1 x j))).congr (fun i _ => fill_next (S1 x) j i)).drew
                      have houty := hout.only hoy hHB (Nat.le_refl _)
                      have hrQy := hoy.row hrQ (by omega)
                      have hsy : wy.heap.size = H + 6 + 2 * x := hoy.size.trans hsz
                      have hbly := hbl.trans (hoy.below (show B ≤ H + 4 + 2 * x by omega))
                      clear hwy hoy hout hrS hrQ hbl hsz oS oP w0 w1 t0 t1 f0 f1
                      have oP : wy.cell? ⟨H + 3, x, none⟩ = some (.slice (some ⟨H + 5 + 2 * x, 0, none⟩) (l x) (l x)) := (houty.oP.cell (i := x) hlt5).trans (by unfold outF; rw [if_pos (by omega)])
                      have w1 : wy.cell? ⟨B + 3 + x, j * 2 + 1, none⟩ = some (.int .i64 (Q1 x j)) := ((houty.key.win x hlt5).cell (i := j * 2 + 1) (by omega)).trans (congrArg some (prF_odd _ _ _))
                      have t1 : wy.cell? ⟨H + 5 + 2 * x, j, none⟩ = some (.int .i64 0) := (hrQy.cell (i := j) hlt6).trans (by rw [if_neg (by omega)])
                      have f1 := hrQy.frozen j
                      go_wp2
                      go_region
                      go_wp2
                      have ho := (only_setCell wy (H + 5 + 2 * x) j (.int .i64 (Q1 x j))).drew
                      go_roundw
                      case rel => exact ⟨j + 1, by omega, by go_num, houty.only ho hHB (by omega), ho.row hrSy (by omega), ((hrQy.set j (.int .i64 (Q1 x j))).congr (fun i _ => fill_next (Q1 x) j i)).drew, hbly.trans (ho.below (by omega)), ho.size.trans hsy⟩
                      case measure => simp [intOf]; omega
                    · have hje : j = l x := by omega
                      have hS0 : wr.rowIs (H + 4 + 2 * x) 3 (l x) (fun i => .int .i64 (S1 x i)) := hrS.congr (fun i hi => by rw [hje, if_pos hi])
                      have hQ0 : wr.rowIs (H + 5 + 2 * x) 2 (l x) (fun i => .int .i64 (Q1 x i)) := hrQ.congr (fun i hi => by rw [hje, if_pos hi])
                      clear hrS hrQ hje
                      go_wp2
                      go_roundw
                      case rel => exact ⟨x + 1, by omega, by go_num, hout.filled hS0 hQ0, hbl, by rw [hsz]; omega⟩
                      case measure => simp [intOf]; omega
                · have hxt : x = t := by omega
                  subst hxt
                  have cb4 : wr.cell? ⟨B, 4, none⟩ = some (.slice (some ⟨B + 2, 0, none⟩) x x) := hout.key.box.cell (i := 4) (by omega)
                  have hmats := hout.mats
                  go_wp2
                  refine bodyPost_ret (v := .tuple #[.slice (some ⟨H, 0, none⟩) (k - d) (k - d), .slice (some ⟨H + 1, 0, none⟩) (k - d) (k - d), .slice (some ⟨H + 2, 0, none⟩) x x, .slice (some ⟨H + 3, 0, none⟩) x x]) (by simp [results, Trym.results19, go_sem]) rfl ?_
                  exact ⟨_, _, _, _, d, S1, Q1, rfl, hd1, Hd2.out, Hd3.out, Hdone.out, (slcAt_row hout.oL).mono (Nat.zero_le _), (slcAt_row hout.oC).mono (Nat.zero_le _), hmats.1, hmats.2, by rw [hB]; exact hbl⟩
end Go.Proofs.Qxb6000921aMods
