/-
  The contracts of zzBytes (13) and zzTrimTooBig (14): they only look at lengths.
-/
import Derived.Test.Qxb6000921aModsSmall
namespace Go.Proofs.Qxb6000921aMods
open Go.RowKit

/-- It returned a bool that meets p. -/
def RetB (e : Ending) (p : Bool → Prop) : Prop := ∃ b, e = .returned (.bool b) ∧ p b

/-- No length beyond 2^17. -/
def Fits (n0 n1 m mp : Nat) (l lp : Nat → Nat) : Prop := n0 ≤ 131072 ∧ n1 ≤ 131072 ∧ m ≤ 131072 ∧ mp ≤ 131072 ∧ (∀ t, t < m → l t ≤ 131072) ∧ ∀ t, t < mp → lp t ≤ 131072

theorem bytes_any (a0 a1 : Option Addr) (n0 n1 c0 c1 m mp lo : Nat) (l lp : Nat → Nat) (S Q : Nat → Nat → Int) (v2 v3 : Value) (F : Int) (w : World) (h2 : MatAt lo w v2 m l S) (h3 : MatAt lo w v3 mp lp Q) :
    Calls Trym.prog 13 #[.slice a0 n0 c0, .slice a1 n1 c1, v2, v3, .int .i64 F] w fun e w' => RetB e fun _ => w = w' := by
  obtain ⟨V, ⟨a2, c2, rfl, h2⟩, hV⟩ := h2
  obtain ⟨U, ⟨a3, c3, rfl, h3⟩, hU⟩ := h3
  go_enter Trym.func13, Trym.ntmps13
  go_wp2
  all_goals first | (go_ret; exact ⟨false, rfl, rfl⟩) | skip
  go_loop [11, 12] (fun z i => ∃ k : Nat, ∃ s : Int, k ≤ m ∧ i = .int .i64 k ∧ z = .int .i64 s ∧ 0 ≤ s ∧ s ≤ 1048576) (fun _ i => m - (intOf i).toNat)
  case atStart => exact ⟨0, _, by omega, rfl, rfl, by omega, by omega⟩
  case round =>
    obtain ⟨k, s, hk, rfl, rfl, hs0, hs1⟩ := hrel
    by_cases hlt : k < m
    · obtain ⟨b, o, rfl, _, hc⟩ := h2 (by omega)
      have hck := hc k hlt
      obtain ⟨a', c', hv, _⟩ := hV k hlt
      rw [hv] at hck
      clear hc hv h2 hV h3 hU
      go_wp2
      all_goals first | (go_ret; exact ⟨false, rfl, rfl⟩) | skip
      go_round
      case rel => exact ⟨k + 1, _, by omega, by go_num, rfl, by omega, by omega⟩
      case measure => simp [intOf]; omega
    · clear h2 hV
      go_wp2
      all_goals first | (go_ret; exact ⟨false, rfl, rfl⟩) | skip
      go_loop [11, 13] (fun z i => ∃ k : Nat, ∃ s : Int, k ≤ mp ∧ i = .int .i64 k ∧ z = .int .i64 s ∧ 0 ≤ s ∧ s ≤ 1048576) (fun _ i => mp - (intOf i).toNat)
      case atStart => exact ⟨0, _, by omega, rfl, rfl, by omega, by omega⟩
      case round =>
        obtain ⟨k, s, hk, rfl, rfl, hs0, hs1⟩ := hrel
        by_cases hlt : k < mp
        · obtain ⟨b, o, rfl, _, hc⟩ := h3 (by omega)
          have hck := hc k hlt
          obtain ⟨a', c', hv, _⟩ := hU k hlt
          rw [hv] at hck
          clear hc hv h3 hU
          go_wp2
          all_goals first | (go_ret; exact ⟨false, rfl, rfl⟩) | skip
          go_round
          case rel => exact ⟨k + 1, _, by omega, by go_num, rfl, by omega, by omega⟩
          case measure => simp [intOf]; omega
        · go_wp2
          go_ret
          exact ⟨true, rfl, rfl⟩

theorem big_any (a0 a1 : Option Addr) (n0 n1 c0 c1 m mp lo : Nat) (l lp : Nat → Nat) (S Q : Nat → Nat → Int) (v2 v3 : Value) (w : World) (h2 : MatAt lo w v2 m l S) (h3 : MatAt lo w v3 mp lp Q) :
    Calls Trym.prog 14 #[.slice a0 n0 c0, .slice a1 n1 c1, v2, v3] w fun e w' => RetB e fun b => w = w' ∧ (b = false → Fits n0 n1 m mp l lp) := by
  obtain ⟨V, ⟨a2, c2, rfl, h2⟩, hV⟩ := h2
  obtain ⟨U, ⟨a3, c3, rfl, h3⟩, hU⟩ := h3
  have d0 : decide ((131072 : Int) < (n0 : Int)) = true ∨ decide ((131072 : Int) < (n0 : Int)) = false := by cases decide ((131072 : Int) < (n0 : Int)) <;> simp
  have d1 : decide ((131072 : Int) < (n1 : Int)) = true ∨ decide ((131072 : Int) < (n1 : Int)) = false := by cases decide ((131072 : Int) < (n1 : Int)) <;> simp
  have d2 : decide ((131072 : Int) < (m : Int)) = true ∨ decide ((131072 : Int) < (m : Int)) = false := by cases decide ((131072 : Int) < (m : Int)) <;> simp
  have d3 : decide ((131072 : Int) < (mp : Int)) = true ∨ decide ((131072 : Int) < (mp : Int)) = false := by cases decide ((131072 : Int) < (mp : Int)) <;> simp
  rcases d0 with d0 | d0
  · go_enter Trym.func14, Trym.ntmps14
    go_wp2
    go_ret
    exact ⟨true, rfl, rfl, fun h => by cases h⟩
  rcases d1 with d1 | d1
  · go_enter Trym.func14, Trym.ntmps14
    go_wp2
    go_ret
    exact ⟨true, rfl, rfl, fun h => by cases h⟩
  rcases d2 with d2 | d2
  · go_enter Trym.func14, Trym.ntmps14
    go_wp2
    go_ret
    exact ⟨true, rfl, rfl, fun h => by cases h⟩
  rcases d3 with d3 | d3
  · go_enter Trym.func14, Trym.ntmps14
    go_wp2
    go_ret
    exact ⟨true, rfl, rfl, fun h => by cases h⟩
  have e0 : n0 ≤ 131072 := by have := of_decide_eq_false d0; omega
  have e1 : n1 ≤ 131072 := by have := of_decide_eq_false d1; omega
  have e2 : m ≤ 131072 := by have := of_decide_eq_false d2; omega
  have e3 : mp ≤ 131072 := by have := of_decide_eq_false d3; omega
  go_enter Trym.func14, Trym.ntmps14
  go_wp2
  all_goals first | (go_ret; exact ⟨true, rfl, rfl, fun h => by cases h⟩) | skip
  go_loop [9, 10] (fun z i => ∃ k : Nat, ∃ s : Int, k ≤ m ∧ i = .int .i64 k ∧ z = .int .i64 s ∧ 0 ≤ s ∧ s ≤ 1048576 ∧ ∀ t, t < k → l t ≤ 131072) (fun _ i => m - (intOf i).toNat)
  case atStart => exact ⟨0, _, by omega, rfl, rfl, by omega, by omega, fun t ht => by omega⟩
  case round =>
    obtain ⟨k, s, hk, rfl, rfl, hs0, hs1, hls⟩ := hrel
    by_cases hlt : k < m
    · obtain ⟨b, o, rfl, _, hc⟩ := h2 (by omega)
      have hck := hc k hlt
      obtain ⟨a', c', hv, _⟩ := hV k hlt
      rw [hv] at hck
      clear hc hv h2 hV h3 hU
      by_cases hb : l k ≤ 131072
      · have HL : Hid (∀ t, t < k + 1 → l t ≤ 131072) := fun t ht => by
          by_cases e : t = k
          · subst e; exact hb
          · exact hls t (by omega)
        clear hls
        go_wp2
        all_goals first | (go_ret; exact ⟨true, rfl, rfl, fun h => by cases h⟩) | skip
        go_round
        case rel => exact ⟨k + 1, _, by omega, by go_num, rfl, by omega, by omega, HL.out⟩
        case measure => simp [intOf]; omega
      · have hb' : (131072 : Int) < (l k : Int) := by omega
        clear hls
        go_wp2
        go_ret
        exact ⟨true, rfl, rfl, fun h => by cases h⟩
    · have hkm : k = m := by omega
      subst hkm
      have HL : Hid (∀ t, t < k → l t ≤ 131072) := hls
      clear h2 hV hls
      go_wp2
      go_loop [9, 11] (fun z i => ∃ k : Nat, ∃ s : Int, k ≤ mp ∧ i = .int .i64 k ∧ z = .int .i64 s ∧ 0 ≤ s ∧ s ≤ 1048576 ∧ ∀ t, t < k → lp t ≤ 131072) (fun _ i => mp - (intOf i).toNat)
      case atStart => exact ⟨0, _, by omega, rfl, rfl, by omega, by omega, fun t ht => by omega⟩
      case round =>
        obtain ⟨k2, s, hk2, rfl, rfl, hs0, hs1, hls⟩ := hrel
        by_cases hlt : k2 < mp
        · obtain ⟨b, o, rfl, _, hc⟩ := h3 (by omega)
          have hck := hc k2 hlt
          obtain ⟨a', c', hv, _⟩ := hU k2 hlt
          rw [hv] at hck
          clear hc hv h3 hU
          by_cases hb : lp k2 ≤ 131072
          · have HL2 : Hid (∀ t, t < k2 + 1 → lp t ≤ 131072) := fun t ht => by
              by_cases e : t = k2
              · subst e; exact hb
              · exact hls t (by omega)
            clear hls
            go_wp2
            all_goals first | (go_ret; exact ⟨true, rfl, rfl, fun h => by cases h⟩) | skip
            go_round
            case rel => exact ⟨k2 + 1, _, by omega, by go_num, rfl, by omega, by omega, HL2.out⟩
            case measure => simp [intOf]; omega
          · have hb' : (131072 : Int) < (lp k2 : Int) := by omega
            clear hls
            go_wp2
            go_ret
            exact ⟨true, rfl, rfl, fun h => by cases h⟩
        · have hkm : k2 = mp := by omega
          subst hkm
          have HL2 : Hid (∀ t, t < k2 → lp t ≤ 131072) := hls
          clear hls
          go_wp2
          go_ret
          exact ⟨false, rfl, rfl, fun _ => ⟨e0, e1, e2, e3, HL.out, HL2.out⟩⟩
end Go.Proofs.Qxb6000921aMods
