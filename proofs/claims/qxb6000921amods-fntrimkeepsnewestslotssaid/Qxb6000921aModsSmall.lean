/-
  The contracts of the law's helpers: zzBytes (13), zzTrimTooBig (14), zzTrimShaped (15), zzCloneI64 (16), zzCloneInts2 (17), zzCloneI642 (18).
-/
import Derived.Test.Qxb6000921aModsBase
namespace Go.Proofs.Qxb6000921aMods
open Go.RowKit

/-- A slice of slices of integers. -/
def MatAt (lo : Nat) (w : World) (v : Value) (m : Nat) (l : Nat → Nat) (S : Nat → Nat → Int) : Prop :=
  ∃ V, SlcAt lo w v m V ∧ ∀ t, t < m → SlcAt lo w (V t) (l t) (fun j => .int .i64 (S t j))
theorem MatAt.below {lo B : Nat} {w w1 : World} {v : Value} {m : Nat} {l : Nat → Nat} {S : Nat → Nat → Int} (h : MatAt lo w v m l S) (hb : Below B w w1) (hB : w.heap.size ≤ B) : MatAt lo w1 v m l S := by
  obtain ⟨V, h1, h2⟩ := h
  exact ⟨V, h1.below hb hB, fun t ht => (h2 t ht).below hb hB⟩
theorem MatAt.drewN {lo : Nat} {w : World} {v : Value} {m : Nat} {l : Nat → Nat} {S : Nat → Nat → Int} (h : MatAt lo w v m l S) (k : Nat) : MatAt lo (w.drewN k) v m l S := h

theorem Trym.info2 : (Trym.prog.info? 2).map (fun i => (i.zero, i.size, i.bytes)) = some (some (.int .i64 0), 1, 8) := by kernel_rfl
theorem Trym.info3 : (Trym.prog.info? 3).map (fun i => (i.zero, i.size, i.bytes)) = some (some (.int .i64 0), 1, 8) := by kernel_rfl
theorem Trym.info2s : (Trym.prog.info? 2).map (·.size) = some 1 := by kernel_rfl
theorem Trym.info3s : (Trym.prog.info? 3).map (·.size) = some 1 := by kernel_rfl
theorem Trym.info25 : (Trym.prog.info? 25).map (fun i => (i.zero, i.size, i.bytes)) = some (some (.slice none 0 0), 1, 24) := by kernel_rfl
theorem Trym.info35 : (Trym.prog.info? 35).map (fun i => (i.zero, i.size, i.bytes)) = some (some (.slice none 0 0), 1, 24) := by kernel_rfl
theorem Trym.info25s : (Trym.prog.info? 25).map (·.size) = some 1 := by kernel_rfl
theorem Trym.info35s : (Trym.prog.info? 35).map (·.size) = some 1 := by kernel_rfl

/-- The clone of a slice of int64: its elements in new memory. -/
theorem clone_any (lo n : Nat) (z : Nat → Int) (v : Value) (w : World) (h : SlcAt lo w v n (fun j => .int .i64 (z j))) (hn : n ≤ 131072) :
    Calls Trym.prog 16 #[v] w fun e w' => ∃ v', e = .returned v' ∧ SlcAt w.heap.size w' v' n (fun j => .int .i64 (z j)) ∧ Below w.heap.size w w' := by
  obtain ⟨a, c, rfl, h⟩ := h
  have hq := fun w a n c n' c' => Lib.run_eql_slice_nil (P := Trym.prog) w 25 2 a n c n' c' Trym.underlying25
  cases a with
  | none =>
    have h0 : n = 0 := by
      rcases Nat.eq_zero_or_pos n with h0 | h0
      · exact h0
      · obtain ⟨_, _, he, _⟩ := h h0
        cases he
    subst h0
    go_enter Trym.func16, Trym.ntmps16
    go_wp2
    go_ret
    exact ⟨_, rfl, ⟨_, _, rfl, fun h => absurd h (by omega)⟩, Below.refl _ _⟩
  | some ad =>
    have hsrc : ∀ j, j < n → w.cell? (ad.add j) = some (.int .i64 (z j)) := fun j hj => by
      obtain ⟨b, o, he, _, hc⟩ := h (by omega)
      cases he
      rw [Addr.add_mid]
      exact hc j hj
    have hbl : ∀ j, j < n → (ad.add j).block < w.heap.size := fun j hj => block_lt_of_cell (hsrc j hj)
    have Hs : Hid (∀ j, j < n → w.cell? (ad.add j) = some (.int .i64 (z j))) := hsrc
    clear hsrc h
    go_enter Trym.func16, Trym.ntmps16
    go_wp2_with (first | (refine wpList_make_named _ rfl (.tmp 7) (.tmp 7) 25 rfl 2 (.int .i64 0) 8 Trym.underlying25 Trym.info2 rfl .i64 .i64 n rfl rfl (by omega) (by omega) _ rfl ?_; intro w1 hr1 hs1 hb1) | (refine wpList_copy_named rfl (.tmp 9) (.tmp 10) 25 25 rfl 2 Trym.underlying25 Trym.info2s w.heap.size n n ad c rfl rfl 2 _ (fun j => .int .i64 (z j)) hr1 (fun j hj => (hb1.cell (p := ad.add j) (hbl j hj)).trans (Hs.out j hj)) (fun _ _ => rfl) ?_; intro w2 hr2 ho2))
    go_ret
    exact ⟨_, rfl, slcAt_row hr2, hb1.trans (ho2.below (Nat.le_refl _))⟩

/-- The clone of a slice of slices of int64. -/
theorem clone2_any (lo m : Nat) (l : Nat → Nat) (S : Nat → Nat → Int) (v : Value) (w : World) (h : MatAt lo w v m l S) (hm : m ≤ 131072) (hl : ∀ t, t < m → l t ≤ 131072) :
    Calls Trym.prog 18 #[v] w fun e w' => ∃ v', e = .returned v' ∧ MatAt w.heap.size w' v' m l S ∧ Below w.heap.size w w' := by
  obtain ⟨V, ⟨a, c, rfl, h⟩, hV⟩ := h
  have hq := fun w a n c n' c' => Lib.run_eql_slice_nil (P := Trym.prog) w 27 25 a n c n' c' Trym.underlying27
  cases a with
  | none =>
    have h0 : m = 0 := by
      rcases Nat.eq_zero_or_pos m with h0 | h0
      · exact h0
      · obtain ⟨_, _, he, _⟩ := h h0
        cases he
    subst h0
    go_enter Trym.func18, Trym.ntmps18
    go_wp2
    go_ret
    exact ⟨_, rfl, ⟨V, ⟨_, _, rfl, fun h => absurd h (by omega)⟩, fun t ht => absurd ht (by omega)⟩, Below.refl _ _⟩
  | some ad =>
    go_enter Trym.func18, Trym.ntmps18
    go_wp2_with (refine wpList_make_named _ rfl (.tmp 8) (.tmp 8) 27 rfl 25 (.slice none 0 0) 24 Trym.underlying27 Trym.info25 rfl .i64 .i64 m rfl rfl (by omega) (by omega) _ rfl ?_; intro w1 hr1 hs1 hb1)
    go_loopw [4] (fun i wr => ∃ k : Nat, k ≤ m ∧ i = .int .i64 k ∧ w.heap.size < wr.heap.size ∧ Below w.heap.size w wr ∧ ∃ V' : Nat → Value, wr.rowIs w.heap.size 25 m (fun t => if t < k then V' t else .slice none 0 0) ∧ ∀ t, t < k → SlcAt (w.heap.size + 1) wr (V' t) (l t) (fun j => .int .i64 (S t j))) (fun i _ => m - (intOf i).toNat)
    case atStart => exact ⟨0, by omega, rfl, by omega, hb1, fun _ => .slice none 0 0, hr1.congr (fun t _ => by simp), fun t ht => absurd ht (by omega)⟩
    case round =>
      obtain ⟨k, hk, rfl, hsz, hbl, V', hr, hV'⟩ := hrel
      by_cases hlt : k < m
      · obtain ⟨b, o, he, _, hc⟩ := h (by omega)
        cases he
        have hbw : b < w.heap.size := by have := block_lt_of_cell (hc k hlt); exact this
        have hck : wr.cell? ⟨b, o + k, none⟩ = some (V k) := (hbl.cell (p := ⟨b, o + k, none⟩) hbw).trans (hc k hlt)
        have hvk := (hV k hlt).below hbl (Nat.le_refl _)
        have Hl := hl k hlt
        clear hc h hV hl
        go_wp2_with (first | (go_at_call 16; refine (clone_any lo (l k) (S k) (V k) wr hvk Hl).mono ?_; rintro e w2 ⟨v2, rfl, hv2, hb2⟩) | (refine wpList_store_cell rfl 25 (.tmp 23) (.tmp 22) rfl w.heap.size k m _ v2 rfl rfl hv2.one 25 (below_row hb2 hr hsz) hlt Trym.info25s ?_; intro w3 hr3 ho3))
        go_roundw
        case rel =>
          refine ⟨k + 1, by omega, by go_num, by rw [ho3.size]; have := hb2.size; omega, (hbl.trans (hb2.mono (by omega))).trans (ho3.below (Nat.le_refl _)), fun t => if t = k then v2 else V' t, hr3.congr (fun t _ => tell_next V' v2 _ k t), fun t ht => ?_⟩
          by_cases e : t = k
          · subst e
            dsimp only
            rw [if_pos rfl]
            exact (hv2.only ho3 hsz).mono (by omega)
          · dsimp only
            rw [if_neg e]
            exact ((hV' t (by omega)).below hb2 (Nat.le_refl _)).only ho3 (by omega)
        case measure => simp [intOf]; omega
      · have hkm : k = m := by omega
        subst hkm
        go_wp2
        go_ret
        exact ⟨_, rfl, ⟨V', (slcAt_row hr).congr (fun t ht => by rw [if_pos ht]), fun t ht => (hV' t ht).mono (by omega)⟩, hbl⟩

/-- The clone of a slice of slices of int. -/
theorem clones_any (lo m : Nat) (l : Nat → Nat) (S : Nat → Nat → Int) (v : Value) (w : World) (h : MatAt lo w v m l S) (hm : m ≤ 131072) (hl : ∀ t, t < m → l t ≤ 131072) :
    Calls Trym.prog 17 #[v] w fun e w' => ∃ v', e = .returned v' ∧ MatAt w.heap.size w' v' m l S ∧ Below w.heap.size w w' := by
  obtain ⟨V, ⟨a, c, rfl, h⟩, hV⟩ := h
  have hq := fun w a n c n' c' => Lib.run_eql_slice_nil (P := Trym.prog) w 26 35 a n c n' c' Trym.underlying26
  have hq2 := fun w a n c n' c' => run_neq_slice_nil_any (P := Trym.prog) w 35 3 a n c n' c' Trym.underlying35
  cases a with
  | none =>
    have h0 : m = 0 := by
      rcases Nat.eq_zero_or_pos m with h0 | h0
      · exact h0
      · obtain ⟨_, _, he, _⟩ := h h0
        cases he
    subst h0
    go_enter Trym.func17, Trym.ntmps17
    go_wp2
    go_ret
    exact ⟨_, rfl, ⟨V, ⟨_, _, rfl, fun h => absurd h (by omega)⟩, fun t ht => absurd ht (by omega)⟩, Below.refl _ _⟩
  | some ad =>
    go_enter Trym.func17, Trym.ntmps17
    go_wp2_with (refine wpList_make_named _ rfl (.tmp 9) (.tmp 9) 26 rfl 35 (.slice none 0 0) 24 Trym.underlying26 Trym.info35 rfl .i64 .i64 m rfl rfl (by omega) (by omega) _ rfl ?_; intro w1 hr1 hs1 hb1)
    go_loopw [4] (fun i wr => ∃ k : Nat, k ≤ m ∧ i = .int .i64 k ∧ w.heap.size < wr.heap.size ∧ Below w.heap.size w wr ∧ ∃ V' : Nat → Value, wr.rowIs w.heap.size 35 m (fun t => if t < k then V' t else .slice none 0 0) ∧ ∀ t, t < k → SlcAt (w.heap.size + 1) wr (V' t) (l t) (fun j => .int .i64 (S t j))) (fun i _ => m - (intOf i).toNat)
    case atStart => exact ⟨0, by omega, rfl, by omega, hb1, fun _ => .slice none 0 0, hr1.congr (fun t _ => by simp), fun t ht => absurd ht (by omega)⟩
    case round =>
      obtain ⟨k, hk, rfl, hsz, hbl, V', hr, hV'⟩ := hrel
      by_cases hlt : k < m
      · obtain ⟨b, o, he, _, hc⟩ := h (by omega)
        cases he
        have hbw : b < w.heap.size := by have := block_lt_of_cell (hc k hlt); exact this
        have hck : wr.cell? ⟨b, o + k, none⟩ = some (V k) := (hbl.cell (p := ⟨b, o + k, none⟩) hbw).trans (hc k hlt)
        have hvk := (hV k hlt).below hbl (Nat.le_refl _)
        have Hl := hl k hlt
        clear hc h hV hl
        obtain ⟨a2, c2, hvk', hvc⟩ := hvk
        rw [hvk'] at hck
        cases a2 with
        | none =>
          have h0 : l k = 0 := by
            rcases Nat.eq_zero_or_pos (l k) with h0 | h0
            · exact h0
            · obtain ⟨_, _, he, _⟩ := hvc h0
              cases he
          have H0 : Hid (l k = 0) := h0
          clear h0 hvk'
          go_wp2
          go_roundw
          case rel =>
            refine ⟨k + 1, by omega, by go_num, hsz, hbl, fun t => if t = k then .slice none 0 0 else V' t, hr.congr (fun t _ => ?_), fun t ht => ?_⟩
            · rw [← tell_next V' (.slice none 0 0) (.slice none 0 0) k t]
              by_cases e : t = k
              · subst e; simp
              · rw [if_neg e]
            · by_cases e : t = k
              · subst e
                dsimp only
                rw [if_pos rfl]
                exact ⟨none, 0, by rw [H0.out], fun h => absurd h (by rw [H0.out]; omega)⟩
              · dsimp only
                rw [if_neg e]
                exact hV' t (by omega)
          case measure => simp [intOf]; omega
        | some ad2 =>
          have hsrc : ∀ j, j < l k → wr.cell? (ad2.add j) = some (.int .i64 (S k j)) := fun j hj => by
            obtain ⟨b', o', he, _, hc'⟩ := hvc (by omega)
            cases he
            rw [Addr.add_mid]
            exact hc' j hj
          have hbl2 : ∀ j, j < l k → (ad2.add j).block < wr.heap.size := fun j hj => block_lt_of_cell (hsrc j hj)
          have Hs : Hid (∀ j, j < l k → wr.cell? (ad2.add j) = some (.int .i64 (S k j))) := hsrc
          have Hck : Hid (wr.cell? ⟨b, o + k, none⟩ = some (.slice (some ad2) (l k) c2)) := hck
          clear hsrc hvc hvk'
          go_wp2_with (first | (refine wpList_make_named _ rfl (.tmp 26) (.tmp 26) 35 rfl 3 (.int .i64 0) 8 Trym.underlying35 Trym.info3 rfl .i64 .i64 (l k) rfl rfl (by omega) (by omega) _ rfl ?_; intro w2 hr2 hs2 hb2; have hck2 : w2.cell? ⟨b, o + k, none⟩ = some (.slice (some ad2) (l k) c2) := (hb2.cell (p := ⟨b, o + k, none⟩) (by show b < _; omega)).trans Hck.out) | (refine wpList_copy_named rfl (.tmp 28) (.tmp 32) 35 35 rfl 3 Trym.underlying35 Trym.info3s wr.heap.size (l k) (l k) ad2 c2 rfl rfl 3 _ (fun j => .int .i64 (S k j)) hr2 (fun j hj => (hb2.cell (p := ad2.add j) (hbl2 j hj)).trans (Hs.out j hj)) (fun _ _ => rfl) ?_; intro w3 hr3 ho3) | (refine wpList_store_cell rfl 35 (.tmp 37) (.tmp 36) rfl w.heap.size k m _ _ rfl rfl rfl 35 (ho3.row (below_row hb2 hr hsz) (by omega)) hlt Trym.info35s ?_; intro w4 hr4 ho4))
          go_roundw
          case rel =>
            refine ⟨k + 1, by omega, by go_num, by rw [ho4.size, ho3.size, hs2]; omega, ((hbl.trans (hb2.mono (by omega))).trans (ho3.below (by omega))).trans (ho4.below (Nat.le_refl _)), fun t => if t = k then .slice (some ⟨wr.heap.size, 0, none⟩) (l k) (l k) else V' t, hr4.congr (fun t _ => tell_next V' _ _ k t), fun t ht => ?_⟩
            by_cases e : t = k
            · subst e
              dsimp only
              rw [if_pos rfl]
              exact ((slcAt_row hr3).only ho4 (by omega)).mono (by omega)
            · dsimp only
              rw [if_neg e]
              have q2 : SlcAt (w.heap.size + 1) w3 (V' t) (l t) (fun j => .int .i64 (S t j)) := by
                have q1 := (hV' t (by omega)).below (hb2.trans (ho3.below (Nat.le_refl _))) (Nat.le_refl _)
                exact q1
              exact q2.only ho4 (by omega)
          case measure => simp [intOf]; omega
      · have hkm : k = m := by omega
        subst hkm
        go_wp2
        go_ret
        exact ⟨_, rfl, ⟨V', (slcAt_row hr).congr (fun t ht => by rw [if_pos ht]), fun t ht => (hV' t ht).mono (by omega)⟩, hbl⟩
end Go.Proofs.Qxb6000921aMods
