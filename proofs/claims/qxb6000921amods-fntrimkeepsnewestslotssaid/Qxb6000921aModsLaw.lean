/-
  The walk of the law (function 5).
-/
import Derived.Test.Qxb6000921aModsZz
namespace Go.Proofs.Qxb6000921aMods
open Go.RowKit

theorem MatAt.shape {lo : Nat} {w : World} {v : Value} {m : Nat} {l lp : Nat → Nat} {S : Nat → Nat → Int} (h : MatAt lo w v m lp S) (e : ∀ t, t < m → l t = lp t) : MatAt lo w v m l S := by
  obtain ⟨V, h1, h2⟩ := h
  exact ⟨V, h1, fun t ht => by rw [e t ht]; exact h2 t ht⟩

theorem law_cases (n0 d k : Nat) (hd1 : d = 0 ∨ d < n0) (hk : n0 - d = k) :
    ((((n0 : Int) == 0) = true ∧ ((k : Int) != 0) = false ∧ n0 = 0 ∧ k = 0) ∨ (((n0 : Int) == 0) = false ∧ 1 ≤ k ∧ decide ((k : Int) < 1) = false)) ∧
    (decide ((1 : Int) < (k : Int)) = false ∨ (1 < k ∧ (1 : Int) < (k : Int))) := by
  constructor
  · by_cases e : n0 = 0
    · left
      have e2 : k = 0 := by omega
      subst e
      subst e2
      exact ⟨rfl, rfl, rfl, rfl⟩
    · right
      exact ⟨by simp; omega, by omega, decide_eq_false (by omega)⟩
  · by_cases e : 1 < k
    · right; exact ⟨e, by omega⟩
    · left; exact decide_eq_false (by omega)

set_option maxRecDepth 100000 in
set_option maxHeartbeats 4000000 in
theorem law_any (n0 n1 m mp : Nat) (l lp : Nat → Nat) (L C : Nat → Int) (S Q : Nat → Nat → Int) (F : Int) (v0 v1 v2 v3 : Value) (w : World) (h0 : SlcAt 0 w v0 n0 (fun j => .int .i64 (L j))) (h1 : SlcAt 0 w v1 n1 (fun j => .int .i64 (C j))) (h2 : MatAt 0 w v2 m l S) (h3 : MatAt 0 w v3 mp lp Q) :
    Calls Trym.prog 5 #[v0, v1, v2, v3, .int .i64 F] w fun e w' => e = .returned (.bool true) ∧ Below w.heap.size w w' := by
  have H0 : Hid (SlcAt 0 w v0 n0 (fun j => .int .i64 (L j))) := h0
  have H1 : Hid (SlcAt 0 w v1 n1 (fun j => .int .i64 (C j))) := h1
  have H2 : Hid (MatAt 0 w v2 m l S) := h2
  have H3 : Hid (MatAt 0 w v3 mp lp Q) := h3
  obtain ⟨a0, c0, rfl, _⟩ := h0
  obtain ⟨a1, c1, rfl, _⟩ := h1
  clear h2 h3
  go_enter Trym.func5, Trym.ntmps5
  go_wp2_with fail
  refine (bytes_any a0 a1 n0 n1 c0 c1 m mp 0 l lp S Q v2 v3 F _ H2.out H3.out).mono ?_
  rintro e w1 ⟨b1, rfl, rfl⟩
  cases b1
  · go_wp2
    go_ret
    exact ⟨rfl, Below.refl _ _⟩
  go_wp2_with fail
  refine (big_any a0 a1 n0 n1 c0 c1 m mp 0 l lp S Q v2 v3 _ H2.out H3.out).mono ?_
  rintro e w1 ⟨b2, rfl, rfl, hfit⟩
  cases b2
  rotate_left
  · go_wp2
    go_ret
    exact ⟨rfl, Below.refl _ _⟩
  have hfit' := hfit rfl
  clear hfit
  go_wp2_with fail
  refine (shaped_any a0 a1 n0 n1 c0 c1 m mp 0 l lp S Q v2 v3 _ H2.out H3.out hfit').mono ?_
  rintro e w1 ⟨b3, rfl, hdr, hsh⟩
  cases b3
  · go_wp2
    go_ret
    exact ⟨rfl, hdr.below _⟩
  obtain ⟨rfl, rfl, hsh2⟩ := hsh rfl
  obtain ⟨hn, _, hm, _, hl, _⟩ := hfit'
  have G0 : Hid (SlcAt 0 w1 (.slice a0 n0 c0) n0 (fun j => .int .i64 (L j))) := H0.out.below (hdr.below _) (Nat.le_refl _)
  have G1 : Hid (SlcAt 0 w1 (.slice a1 n0 c1) n0 (fun j => .int .i64 (C j))) := H1.out.below (hdr.below _) (Nat.le_refl _)
  have G2 : Hid (MatAt 0 w1 v2 m l S) := H2.out.below (hdr.below _) (Nat.le_refl _)
  have G3 : Hid (MatAt 0 w1 v3 m l Q) := (H3.out.below (hdr.below _) (Nat.le_refl _)).shape (fun t ht => (hsh2 t ht).1)
  have HS : Hid (∀ t, t < m → ∀ j, j < l t → S t j ≤ n0) := fun t ht => (hsh2 t ht).2
  have Hl : Hid (∀ t, t < m → l t ≤ 131072) := hl
  have hbw : Below w.heap.size w w1 := hdr.below _
  clear H0 H1 H2 H3 hsh hsh2 hl hdr
  go_wp2_with fail
  refine (clone_any 0 n0 L _ w1 G0.out hn).mono ?_
  rintro e w2 ⟨u0, rfl, hu0, hb2⟩
  go_wp2_with fail
  refine (clone_any 0 n0 C _ w2 (G1.out.below hb2 (Nat.le_refl _)) hn).mono ?_
  rintro e w3 ⟨u1, rfl, hu1, hb3⟩
  go_wp2_with fail
  refine (clones_any 0 m l S _ w3 ((G2.out.below hb2 (Nat.le_refl _)).below hb3 (Nat.le_refl _)) hm Hl.out).mono ?_
  rintro e w4 ⟨u2, rfl, hu2, hb4⟩
  go_wp2_with fail
  refine (clone2_any 0 m l Q _ w4 (((G3.out.below hb2 (Nat.le_refl _)).below hb3 (Nat.le_refl _)).below hb4 (Nat.le_refl _)) hm Hl.out).mono ?_
  rintro e w5 ⟨u3, rfl, hu3, hb5⟩
  have K0 : SlcAt 0 w5 u0 n0 (fun j => .int .i64 (L j)) := (((hu0.below hb3 (Nat.le_refl _)).below hb4 (Nat.le_refl _)).below hb5 (Nat.le_refl _)).mono (Nat.zero_le _)
  have K1 : SlcAt 0 w5 u1 n0 (fun j => .int .i64 (C j)) := ((hu1.below hb4 (Nat.le_refl _)).below hb5 (Nat.le_refl _)).mono (Nat.zero_le _)
  have K2 : MatAt 0 w5 u2 m l S := by
    obtain ⟨V, q1, q2⟩ := hu2.below hb5 (Nat.le_refl _)
    exact ⟨V, q1.mono (Nat.zero_le _), fun t ht => (q2 t ht).mono (Nat.zero_le _)⟩
  have K3 : MatAt 0 w5 u3 m l Q := by
    obtain ⟨V, q1, q2⟩ := hu3
    exact ⟨V, q1.mono (Nat.zero_le _), fun t ht => (q2 t ht).mono (Nat.zero_le _)⟩
  have hb25 : Below w.heap.size w w5 := hbw.trans ((hb2.mono hbw.size).trans ((hb3.mono (Nat.le_trans hbw.size hb2.size)).trans ((hb4.mono (Nat.le_trans hbw.size (Nat.le_trans hb2.size hb3.size))).trans (hb5.mono (Nat.le_trans hbw.size (Nat.le_trans hb2.size (Nat.le_trans hb3.size hb4.size)))))))
  clear G0 G1 G2 G3 hu0 hu1 hu2 hu3 hb2 hb3 hb4 hb5 hbw
  go_wp2_with fail
  refine (zz_any 0 n0 m l L C S Q F u0 u1 u2 u3 w5 K0 K1 K2 K3 hn hm Hl.out HS.out).mono ?_
  rintro e w6 ⟨o0, o1, o2, o3, d, S1, Q1, rfl, hd1, hd2, hd3, hdone, P0, P1, P2, P3, hb6⟩
  have J0 := K0.below hb6 (Nat.le_refl _)
  have J1 := K1.below hb6 (Nat.le_refl _)
  have J2 := K2.below hb6 (Nat.le_refl _)
  have J3 := K3.below hb6 (Nat.le_refl _)
  have hb26 : Below w.heap.size w w6 := hb25.trans (hb6.mono hb25.size)
  clear K0 K1 K2 K3 hb25 hb6
  obtain ⟨k, hk⟩ : ∃ k, n0 - d = k := ⟨_, rfl⟩
  rw [hk] at P0 P1
  have hdn : d ≤ n0 := by omega
  have hkp : (n0 : Int) - (d : Int) = (k : Int) := by omega
  rw [hkp] at hdone
  have hnk : (n0 : Int) - (k : Int) = (d : Int) := by omega
  have hkn : k ≤ n0 := by omega
  have hkd : k + d = n0 := by omega
  have Hd2 : Hid (∀ i, i < d → L i < F) := hd2
  have Hd3 : Hid (d + 1 < n0 → F ≤ L d) := hd3
  have Hdone : Hid (DoneTo (k : Int) l S Q S1 Q1 m 0) := hdone
  have Hkd : Hid (k + d = n0) := hkd
  have Hhk : Hid (n0 - d = k) := hk
  clear hd2 hd3 hdone hkp hkd hk
  obtain ⟨x0, y0, rfl, J0⟩ := J0
  obtain ⟨x1, y1, rfl, J1⟩ := J1
  obtain ⟨V2, ⟨x2, y2, rfl, J2⟩, JV2⟩ := J2
  obtain ⟨V3, ⟨x3, y3, rfl, J3⟩, JV3⟩ := J3
  obtain ⟨z0, q0, rfl, P0⟩ := P0
  obtain ⟨z1, q1, rfl, P1⟩ := P1
  obtain ⟨U2, ⟨z2, q2, rfl, P2⟩, PU2⟩ := P2
  obtain ⟨U3, ⟨z3, q3, rfl, P3⟩, PU3⟩ := P3
  obtain ⟨hz, hg⟩ := law_cases n0 d k hd1 Hhk.out
  rcases hz with ⟨g1, g2, g3, g4⟩ | ⟨g1, g2, g3⟩
  all_goals
    go_wp2_with fail
    go_loopw [18] (fun i wr => ∃ j : Nat, j ≤ k ∧ i = .int .i64 j ∧ Drawn w6 wr) (fun i _ => k - (intOf i).toNat)
    case atStart => exact ⟨0, by omega, rfl, drawn_refl _⟩
    case round =>
      obtain ⟨j, hj, rfl, hdr⟩ := hrel
      by_cases hlt : j < k
      · obtain ⟨b0, o0, rfl, _, e0⟩ := P0 (by omega)
        obtain ⟨b1, o1, rfl, _, e1⟩ := P1 (by omega)
        obtain ⟨b2, o2, rfl, _, e2⟩ := J0 (by omega)
        obtain ⟨b3, o3, rfl, _, e3⟩ := J1 (by omega)
        have hk2 := Hkd.out
        have k0 := (hdr.cell ⟨b0, o0 + j, none⟩).trans (e0 j hlt)
        have k1 := (hdr.cell ⟨b1, o1 + j, none⟩).trans (e1 j hlt)
        have k2 := (hdr.cell ⟨b2, o2 + (d + j), none⟩).trans (e2 (d + j) (by omega))
        have k3 := (hdr.cell ⟨b3, o3 + (d + j), none⟩).trans (e3 (d + j) (by omega))
        have n1 : (j : Int) < (k : Int) := by omega
        have n2 : (d : Int) + (j : Int) < (n0 : Int) := by omega
        clear e0 e1 e2 e3 P0 P1 J0 J1 P2 P3 J2 J3 JV2 JV3 PU2 PU3 hk2 hg
        go_wp2
        all_goals
          go_quiet (fail)
          go_wp2
          go_roundw
          case rel => exact ⟨j + 1, by omega, by go_num, hdr⟩
          case measure => simp [intOf]; omega
      · clear P1 J1
        go_wp2
        go_loop [19] (fun i => ∃ j : Nat, j ≤ d ∧ i = .int .i64 j) (fun i => d - (intOf i).toNat)
        case atStart => exact ⟨0, by omega, rfl⟩
        case round =>
          obtain ⟨j2, hj2, rfl⟩ := hrel
          by_cases hlt2 : j2 < d
          · obtain ⟨b2, o2, rfl, _, e2⟩ := J0 (by omega)
            have k2 := (hdr.cell ⟨b2, o2 + j2, none⟩).trans (e2 j2 (by omega))
            have hLF := Hd2.out j2 hlt2
            have n1 : (j2 : Int) < (n0 : Int) := by omega
            clear e2 P0 J0 P2 P3 J2 J3 JV2 JV3 PU2 PU3 hg
            go_wp2
            all_goals
              go_round
              case rel => exact ⟨j2 + 1, by omega, by go_num⟩
              case measure => simp [intOf]; omega
          · clear J0
            have hgg : decide ((1 : Int) < (k : Int)) = false ∨ ((1 : Int) < (k : Int) ∧ F ≤ L d ∧ ∃ b0 o0, z0 = some ⟨b0, o0, none⟩ ∧ wr.cell? ⟨b0, o0, none⟩ = some (.int .i64 (L d))) := by
              rcases hg with hg | ⟨hg1, hg⟩
              · exact .inl hg
              · obtain ⟨b0, o0, ez, _, e0⟩ := P0 (Nat.lt_trans Nat.zero_lt_one hg1)
                have hkd2 := Hkd.out
                refine .inr ⟨hg, Hd3.out ?_, b0, o0, ez, ?_⟩
                · clear P0 P2 P3 J2 J3; omega
                · have := (hdr.cell ⟨b0, o0 + 0, none⟩).trans (e0 0 (Nat.lt_trans Nat.zero_lt_one hg1))
                  simpa using this
            clear P0 hg
            rcases hgg with hg | ⟨hg, hFL, b0, o0, rfl, kz⟩
            all_goals try (exfalso; clear J2 J3 P2 P3 JV2 JV3 PU2 PU3; omega)
            all_goals
              go_wp2
              go_loopw [20] (fun i wr => ∃ t : Nat, t ≤ m ∧ i = .int .i64 t ∧ Drawn w6 wr) (fun i _ => m - (intOf i).toNat)
              case atStart => exact ⟨0, by omega, rfl, hdr⟩
              case round =>
                clear hdr
                obtain ⟨t, ht, rfl, hdr⟩ := hrel
                by_cases hlt3 : t < m
                · obtain ⟨b2, o2, rfl, _, e2⟩ := J2 (by omega)
                  obtain ⟨b3, o3, rfl, _, e3⟩ := J3 (by omega)
                  obtain ⟨b4, o4, rfl, _, e4⟩ := P2 (by omega)
                  obtain ⟨b5, o5, rfl, _, e5⟩ := P3 (by omega)
                  obtain ⟨a2, s2, v2e, i2⟩ := JV2 t hlt3
                  obtain ⟨a3, s3, v3e, i3⟩ := JV3 t hlt3
                  obtain ⟨a4, s4, v4e, i4⟩ := PU2 t hlt3
                  obtain ⟨a5, s5, v5e, i5⟩ := PU3 t hlt3
                  have E2 : w6.cell? ⟨b2, o2 + t, none⟩ = some (.slice a2 (l t) s2) := (e2 t hlt3).trans (congrArg some v2e)
                  have E3 : w6.cell? ⟨b3, o3 + t, none⟩ = some (.slice a3 (l t) s3) := (e3 t hlt3).trans (congrArg some v3e)
                  have E4 : w6.cell? ⟨b4, o4 + t, none⟩ = some (.slice a4 (l t) s4) := (e4 t hlt3).trans (congrArg some v4e)
                  have E5 : w6.cell? ⟨b5, o5 + t, none⟩ = some (.slice a5 (l t) s5) := (e5 t hlt3).trans (congrArg some v5e)
                  have C2 := (hdr.cell ⟨b2, o2 + t, none⟩).trans E2
                  have C4 := (hdr.cell ⟨b4, o4 + t, none⟩).trans E4
                  have C5 := (hdr.cell ⟨b5, o5 + t, none⟩).trans E5
                  have tn : (t : Int) < (m : Int) := by omega
                  have hlt' := Hl.out t hlt3
                  clear e2 e3 e4 e5 v2e v3e v4e v5e J2 J3 P2 P3 JV2 JV3 PU2 PU3
                  go_wp2
                  go_quiet (fail)
                  go_wp2
                  go_loopw [21] (fun i wr => ∃ j : Nat, j ≤ l t ∧ i = .int .i64 j ∧ Drawn w6 wr) (fun i _ => l t - (intOf i).toNat)
                  case atStart => exact ⟨0, by omega, rfl, hdr⟩
                  case round =>
                    clear hdr C2 C4 C5
                    obtain ⟨j3, hj3, rfl, hdr⟩ := hrel
                    by_cases hlt4 : j3 < l t
                    · obtain ⟨p2, r2, rfl, _, f2⟩ := i2 (by omega)
                      obtain ⟨p3, r3, rfl, _, f3⟩ := i3 (by omega)
                      obtain ⟨p4, r4, rfl, _, f4⟩ := i4 (by omega)
                      obtain ⟨p5, r5, rfl, _, f5⟩ := i5 (by omega)
                      have C2 := (hdr.cell ⟨b2, o2 + t, none⟩).trans E2
                      have C3 := (hdr.cell ⟨b3, o3 + t, none⟩).trans E3
                      have C4 := (hdr.cell ⟨b4, o4 + t, none⟩).trans E4
                      have C5 := (hdr.cell ⟨b5, o5 + t, none⟩).trans E5
                      have D2 := (hdr.cell ⟨p2, r2 + j3, none⟩).trans (f2 j3 hlt4)
                      have D3 := (hdr.cell ⟨p3, r3 + j3, none⟩).trans (f3 j3 hlt4)
                      have D4 := (hdr.cell ⟨p4, r4 + j3, none⟩).trans (f4 j3 hlt4)
                      have D5 := (hdr.cell ⟨p5, r5 + j3, none⟩).trans (f5 j3 hlt4)
                      have hfx := (Hdone.out t j3).1 (.inl hlt3) hlt4
                      have jn : (j3 : Int) < (l t : Int) := by omega
                      clear f2 f3 f4 f5 E2 E3 E4 E5 i2 i3 i4 i5
                      by_cases hle : S t j3 ≤ (k : Int)
                      · obtain ⟨q1e, q2e⟩ := hfx.1 hle
                        rw [q1e] at D4
                        rw [q2e] at D5
                        clear hfx q1e q2e
                        go_wp2
                        go_quiet (fail)
                        go_wp2
                        go_roundw
                        case rel => exact ⟨j3 + 1, by omega, by go_num, hdr⟩
                        case measure => simp [intOf]; omega
                      · have q1e := hfx.2 (by omega)
                        rw [q1e] at D4
                        clear hfx q1e
                        go_wp2
                        go_roundw
                        case rel => exact ⟨j3 + 1, by omega, by go_num, hdr⟩
                        case measure => simp [intOf]; omega
                    · have C2 := (hdr.cell ⟨b2, o2 + t, none⟩).trans E2
                      clear i2 i3 i4 i5
                      go_wp2
                      go_roundw
                      case rel => exact ⟨t + 1, by omega, by go_num, hdr⟩
                      case measure => simp [intOf]; omega
                · go_wp2
                  go_ret
                  exact ⟨rfl, hb26.trans (hdr.below _)⟩
end Go.Proofs.Qxb6000921aMods
