/-
  The walk of the law (function 6).
-/
import Derived.Test.Qxb6001373aModsBuild
import Derived.Test.Qxb6001373aModsMake
namespace Go.Proofs.Qxb6001373aMods
open Go.RowKit

/-- What a slice that the call owns leads to: its pointers. -/
theorem owned_cells {w : World} {base : Nat} {B : Nat} {v : Value} {js : List Nat} (h : w.ownsRow base 35 1 v js.length (js.map (ptrF B))) :
    ∃ a c, v = .slice a js.length c ∧ (0 < js.length → ∃ g, a = some ⟨g, 0, none⟩ ∧ ∀ t, t < js.length → w.cell? ⟨g, t, none⟩ = some (ptrF B (js.getD t 0))) := by
  have h' := h
  rcases h.2 with ⟨rfl, h0⟩ | ⟨g, cap, cur, rfl, _⟩
  · exact ⟨none, 0, by rw [h0], fun hn => by omega⟩
  · refine ⟨_, _, rfl, fun _ => ⟨g, rfl, fun t ht => ?_⟩⟩
    rw [h'.cellAt t (by omega)]
    simp [ht]

theorem getD_mem (js : List Nat) (t : Nat) (h : t < js.length) : js.getD t 0 ∈ js := by
  rw [List.getD, List.getElem?_eq_getElem h]
  exact List.getElem_mem h

set_option maxRecDepth 100000 in
set_option maxHeartbeats 4000000 in
theorem law_any (n : Nat) (mx kk cost : Int) (st : Nat → Pl) (v : Value) (w : World) (h : SpecAt w v n st) (hk0 : -9223372036854775808 ≤ kk) (hk1 : kk ≤ 9223372036854775807) (hc1 : cost ≤ 9223372036854775807) :
    Calls Trym.prog 6 #[.int .i64 mx, v, .int .i64 kk, .int .i64 cost] w fun e w' => e = .returned (.bool true) ∧ Below w.heap.size w w' := by
  have H : Hid (SpecAt w v n st) := h
  obtain ⟨a, c, rfl, hcell⟩ := h
  by_cases hb : n ≤ 1048576
  rotate_left
  · clear hcell
    go_enter Trym.func6, Trym.ntmps6
    go_wp2_with (go_at_call 20; refine (bytes_no _ _ _ _ _ _ _ (by omega)).mono ?_; rintro e w1 ⟨rfl, rfl⟩)
    go_ret
    exact ⟨rfl, Below.refl _ _⟩
  by_cases hn : n ≤ 4096
  rotate_left
  · clear hcell
    have hn' : (4096 : Int) < (n : Int) := by omega
    go_enter Trym.func6, Trym.ntmps6
    go_wp2_with (go_at_call 20; refine (bytes_ok _ _ _ _ _ _ _ (by omega)).mono ?_; rintro e w1 ⟨rfl, rfl⟩)
    go_ret
    exact ⟨rfl, Below.refl _ _⟩
  have hn' : ¬ (4096 : Int) < (n : Int) := by omega
  have HC : Hid (0 < n → ∃ b o, a = some ⟨b, o, none⟩ ∧ ∀ i, i < n → (st i).fit ∧ ∀ j, j < 5 → w.cell? ⟨b, o + i * 5 + j, none⟩ = some (spF (st i) j)) := hcell
  clear hcell
  go_enter Trym.func6, Trym.ntmps6
  go_wp2_with (go_at_call 20; refine (bytes_ok _ _ _ _ _ _ _ (by omega)).mono ?_; rintro e w1 ⟨rfl, rfl⟩)
  refine (specsOK_any n mx st _ w H.out).mono ?_
  rintro e w1 ⟨b1, rfl, rfl, hso⟩
  cases b1
  · go_wp2
    go_ret
    exact ⟨rfl, Below.refl _ _⟩
  have hs := hso rfl
  clear hso
  by_cases hneg : kk < 0
  · have hneg' : decide (kk < 0) = true := decide_eq_true hneg
    clear hneg
    go_wp2
    go_ret
    exact ⟨rfl, Below.refl _ _⟩
  have hneg' : decide (kk < 0) = false := decide_eq_false hneg
  by_cases hlen : (n : Int) ≤ kk
  · go_wp2
    go_ret
    exact ⟨rfl, Below.refl _ _⟩
  obtain ⟨k, rfl⟩ : ∃ k : Nat, kk = k := ⟨kk.toNat, by omega⟩
  have hk : k < n := by omega
  obtain ⟨B, hB⟩ : ∃ B, w.heap.size = B := ⟨_, rfl⟩
  obtain ⟨b, o, rfl, hcell⟩ := HC.out (by omega)
  have hbB : b < B := by have := block_lt_of_cell ((hcell k hk).2 0 (by omega)); rw [hB] at this; exact this
  have Hck : Hid (w.cell? ⟨b, o + k * 5 + 1, none⟩ = some (.int .i64 (st k).un)) := (hcell k hk).2 1 (by omega)
  have hgood : Good n mx (sumH st n) st := by
    have := sumH_bd n hs.2.2.2
    exact ⟨hs.1, hs.2.1, hs.2.2.1, this.1, by omega, hs.2.2.2⟩
  have kn : (k : Int) < (n : Int) := by omega
  clear HC hcell
  go_wp2_with fail
  refine (build_any B n mx st _ w hB H.out hs).mono ?_
  rintro e w2 ⟨rfl, hst2, hsz2, hb2⟩
  have cmk := hst2.mpt hk
  clear H
  go_wp2_with fail
  refine (zzMake_any B n k mx cost st w2 hst2 hk hgood hc1 (by omega)).mono ?_
  rintro e w3 ⟨vs, made, s2, js, rfl, hst3, hg3, hown, hjl, hgone, hmade, hnot, hu1, hu2, hb3⟩
  obtain ⟨av, cv, rfl, hcv⟩ := owned_cells hown
  have hbw3 : Below B w w3 := hb2.trans hb3
  clear cmk hst2 hsz2 hb2 hb3 hown hgood hs
  go_wp2_with fail
  refine (ledger_any B n mx _ s2 w3 hst3 hg3 rfl).mono ?_
  rintro e w4 ⟨rfl, hdr4⟩
  have hst4 := hst3.drawn hdr4
  go_wp2_with fail
  refine (same_any B n mx _ s2 w4 hst4 hg3.n1).mono ?_
  rintro e w5 ⟨rfl, hdr5⟩
  have hdr35 := hdr4.trans hdr5
  clear hst4 hdr4 hdr5
  have Hgone : Hid (∀ j ∈ js, j ≠ k ∧ j < n ∧ Gone (s2 j)) := hgone
  have hjl2 := hg3.n1
  have Hmade : Hid (made = true → cost ≤ rf mx (sumH s2 n) s2 k n) := hmade
  have Hnot : Hid (made = false → Gone (s2 k)) := hnot
  clear hgone hmade hnot
  go_wp2
  go_loopw [14] (fun i wr => ∃ t : Nat, t ≤ js.length ∧ i = .int .i64 t ∧ Drawn w3 wr) (fun i _ => js.length - (intOf i).toNat)
  case atStart => exact ⟨0, by omega, rfl, hdr35⟩
  case round =>
    clear hdr35
    obtain ⟨t, ht, rfl, hdr⟩ := hrel
    have hst := hst3.drawn hdr
    by_cases hlt : t < js.length
    · obtain ⟨g, rfl, hcg⟩ := hcv (by omega)
      obtain ⟨q1, q2, q3⟩ := Hgone.out (js.getD t 0) (getD_mem js t hlt)
      have ct : wr.cell? ⟨g, t, none⟩ = some (.pointer (some ⟨B + 3 + 2 * js.getD t 0, 0, none⟩)) := (hdr.cell ⟨g, t, none⟩).trans (hcg t hlt)
      have tn : (t : Int) < (js.length : Int) := by omega
      generalize js.getD t 0 = z at q1 q2 q3 ct
      have heq := hst.eql_other q2 hk q1
      obtain ⟨z1, z2, z3⟩ := q3
      have Z1 : Hid ((s2 z).he = 0) := z1
      have Z2 : Hid ((s2 z).wa = true) := z2
      have Z3 : Hid ((s2 z).ad = false) := z3
      clear z1 z2 z3 hcg hcv
      go_wp2_with (go_at_call 22; refine (placeOf_any B n z mx _ s2 wr hst q2).mono ?_; rintro e w6 ⟨rfl, hdr6⟩; rw [Z1.out, Z2.out, Z3.out])
      go_roundw
      case rel => exact ⟨t + 1, by omega, by go_num, hdr.trans hdr6⟩
      case measure => simp [intOf]; omega
    · clear hcv
      have hgk : decide (cost ≤ (s2 k).un) = true := decide_eq_true hu1
      cases made
      · obtain ⟨z1, z2, z3⟩ := Hnot.out rfl
        have Z1 : Hid ((s2 k).he = 0) := z1
        have Z2 : Hid ((s2 k).wa = true) := z2
        have Z3 : Hid ((s2 k).ad = false) := z3
        clear z1 z2 z3
        go_wp2_with (go_at_call 22; refine (placeOf_any B n k mx _ s2 wr hst hk).mono ?_; rintro e w6 ⟨rfl, hdr6⟩; rw [Z1.out, Z2.out, Z3.out]; have cu : w6.cell? ⟨b, o + k * 5 + 1, none⟩ = some (.int .i64 (st k).un) := ((hdr.trans hdr6).cell ⟨b, o + k * 5 + 1, none⟩).trans ((hbw3.cell (p := ⟨b, o + k * 5 + 1, none⟩) hbB).trans Hck.out))
        go_ret
        exact ⟨by simp, by rw [hB]; exact hbw3.trans ((hdr.trans hdr6).below _)⟩
      · have hcost := Hmade.out rfl
        go_wp2_with (first | (go_at_call 22; refine (placeOf_any B n k mx _ s2 wr hst hk).mono ?_; rintro e w6 ⟨rfl, hdr6⟩; have hst6 := hst.drawn hdr6) | (go_at_call 23; refine (zzRoomFor_any B n k mx _ s2 w6 hst6 hk hg3).mono ?_; rintro e w7 ⟨rfl, hdr7⟩; have cu : w7.cell? ⟨b, o + k * 5 + 1, none⟩ = some (.int .i64 (st k).un) := ((hdr.trans (hdr6.trans hdr7)).cell ⟨b, o + k * 5 + 1, none⟩).trans ((hbw3.cell (p := ⟨b, o + k * 5 + 1, none⟩) hbB).trans Hck.out)))
        go_ret
        exact ⟨by simp, by rw [hB]; exact hbw3.trans ((hdr.trans (hdr6.trans hdr7)).below _)⟩
end Go.Proofs.Qxb6001373aMods
