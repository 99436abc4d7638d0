/-
  The contract of zzTrimShaped (15).
-/
import Derived.Test.Qxb6000921aModsSizes
namespace Go.Proofs.Qxb6000921aMods
open Go.RowKit

/-- What 'shaped' says. -/
def Shape (n0 n1 m mp : Nat) (l lp : Nat → Nat) (S : Nat → Nat → Int) : Prop := n0 = n1 ∧ m = mp ∧ ∀ t, t < m → l t = lp t ∧ ∀ j, j < l t → S t j ≤ n0

/-- Nothing but draws parts w1 from w. -/
def Drawn (w w1 : World) : Prop := w1.os = w.os ∧ w1.tape = w.tape ∧ w1.output = w.output ∧ w1.heap = w.heap
theorem drawn_refl (w : World) : Drawn w w := ⟨rfl, rfl, rfl, rfl⟩
theorem Drawn.cell {w w1 : World} (h : Drawn w w1) (a : Addr) : w1.cell? a = w.cell? a := by simp [World.cell?, h.2.2.2]
theorem Drawn.below {w w1 : World} (h : Drawn w w1) (B : Nat) : Below B w w1 := ⟨h.1, h.2.1, h.2.2.1, by rw [h.2.2.2]; exact Nat.le_refl _, fun k _ => by rw [h.2.2.2]⟩
theorem Drawn.size {w w1 : World} (h : Drawn w w1) : w1.heap.size = w.heap.size := by rw [h.2.2.2]

set_option maxHeartbeats 400000 in
theorem shaped_any (a0 a1 : Option Addr) (n0 n1 c0 c1 m mp lo : Nat) (l lp : Nat → Nat) (S Q : Nat → Nat → Int) (v2 v3 : Value) (w : World) (h2 : MatAt lo w v2 m l S) (h3 : MatAt lo w v3 mp lp Q) (hf : Fits n0 n1 m mp l lp) :
    Calls Trym.prog 15 #[.slice a0 n0 c0, .slice a1 n1 c1, v2, v3] w fun e w' => RetB e fun b => Drawn w w' ∧ (b = true → Shape n0 n1 m mp l lp S) := by
  obtain ⟨V, ⟨a2, c2, rfl, h2⟩, hV⟩ := h2
  obtain ⟨U, ⟨a3, c3, rfl, h3⟩, hU⟩ := h3
  obtain ⟨f0, f1, f2, f3, f4, f5⟩ := hf
  have d0 : ((n0 : Int) != (n1 : Int)) = true ∨ ((n0 : Int) != (n1 : Int)) = false := by cases ((n0 : Int) != (n1 : Int)) <;> simp
  have d1 : ((m : Int) != (mp : Int)) = true ∨ ((m : Int) != (mp : Int)) = false := by cases ((m : Int) != (mp : Int)) <;> simp
  rcases d0 with d0 | d0
  · go_enter Trym.func15, Trym.ntmps15
    go_wp2
    go_ret
    exact ⟨false, rfl, drawn_refl _, fun h => by cases h⟩
  rcases d1 with d1 | d1
  · go_enter Trym.func15, Trym.ntmps15
    go_wp2
    go_ret
    exact ⟨false, rfl, drawn_refl _, fun h => by cases h⟩
  have E0 : Hid (n0 = n1) := by have : (n0 : Int) = n1 := by simpa using d0
                                exact (by omega : n0 = n1)
  have e1 : m = mp := by have : (m : Int) = mp := by simpa using d1
                         omega
  subst e1
  clear d1
  go_enter Trym.func15, Trym.ntmps15
  go_wp2
  go_loopw [9] (fun i wr => ∃ k : Nat, k ≤ m ∧ i = .int .i64 k ∧ Drawn w wr ∧ ∀ t, t < k → l t = lp t ∧ ∀ j, j < l t → S t j ≤ n0) (fun i _ => m - (intOf i).toNat)
  case atStart => exact ⟨0, by omega, rfl, drawn_refl _, fun t ht => by omega⟩
  case round =>
    obtain ⟨k, hk, rfl, hal, hok⟩ := hrel
    by_cases hlt : k < m
    · obtain ⟨b, o, rfl, _, hc⟩ := h2 (by omega)
      obtain ⟨b3, o3, rfl, _, hc3⟩ := h3 (by omega)
      have hck := (hal.cell ⟨b, o + k, none⟩).trans (hc k hlt)
      have hck3 := (hal.cell ⟨b3, o3 + k, none⟩).trans (hc3 k hlt)
      obtain ⟨a', c', hv, hin⟩ := hV k hlt
      obtain ⟨a'', c'', hu, _⟩ := hU k hlt
      rw [hv] at hck
      rw [hu] at hck3
      have g4 := f4 k hlt
      have kk : (k : Int) < (m : Int) := by omega
      have Hok : Hid (∀ t, t < k → l t = lp t ∧ ∀ j, j < l t → S t j ≤ n0) := hok
      clear hc hc3 hv hu h2 h3 hV hU hok f4 f5
      have hll : ((l k : Int) != (lp k : Int)) = true ∨ ((l k : Int) != (lp k : Int)) = false := by cases ((l k : Int) != (lp k : Int)) <;> simp
      rcases hll with hll | hll
      · go_wp2
        go_quiet (fail)
        go_wp2
        go_ret
        exact ⟨false, rfl, hal, fun h => by cases h⟩
      · have Hll : Hid (l k = lp k) := by
          have : (l k : Int) = lp k := by simpa using hll
          exact (by omega : l k = lp k)
        go_wp2
        go_quiet (fail)
        go_wp2
        go_loop [10] (fun i => ∃ j : Nat, j ≤ l k ∧ i = .int .i64 j ∧ ∀ j', j' < j → S k j' ≤ n0) (fun i => l k - (intOf i).toNat)
        case atStart => exact ⟨0, by omega, rfl, fun j' hj => by omega⟩
        case round =>
          obtain ⟨j, hj, rfl, hjs⟩ := hrel
          by_cases hlt2 : j < l k
          · obtain ⟨b2, o2, rfl, _, hc2⟩ := hin (by omega)
            have hck2 := (hal.cell ⟨b2, o2 + j, none⟩).trans (hc2 j hlt2)
            have Hjs : Hid (∀ j', j' < j → S k j' ≤ n0) := hjs
            clear hc2 hjs hin
            by_cases hgt : (n0 : Int) < S k j
            · go_wp2
              go_ret
              exact ⟨false, rfl, hal, fun h => by cases h⟩
            · go_wp2
              go_round
              case rel =>
                refine ⟨j + 1, by omega, by go_num, fun j' hj' => ?_⟩
                by_cases e : j' = j
                · subst e; omega
                · exact Hjs.out j' (by omega)
              case measure => simp [intOf]; omega
          · have hjl : j = l k := by omega
            have Hjl : Hid (∀ j', j' < l k → S k j' ≤ n0) := fun j' hj' => hjs j' (by omega)
            clear hjs hin hjl
            go_wp2
            go_roundw
            case rel =>
              refine ⟨k + 1, by omega, by go_num, hal, fun t ht => ?_⟩
              by_cases e : t = k
              · subst e; exact ⟨Hll.out, Hjl.out⟩
              · exact Hok.out t (by omega)
            case measure => simp [intOf]; omega
    · have hkm : k = m := by omega
      subst hkm
      have Hok : Hid (∀ t, t < k → l t = lp t ∧ ∀ j, j < l t → S t j ≤ n0) := hok
      clear hok h2 h3 hV hU f4 f5
      go_wp2
      go_ret
      exact ⟨true, rfl, hal, fun _ => ⟨E0.out, rfl, Hok.out⟩⟩
end Go.Proofs.Qxb6000921aMods
