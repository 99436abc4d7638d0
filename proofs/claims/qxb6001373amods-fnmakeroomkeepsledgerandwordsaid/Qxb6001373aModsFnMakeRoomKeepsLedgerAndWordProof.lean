/-
  THE PROOF OF 'Rows.FnMakeRoomKeepsLedgerAndWordSaid': the frame after the guide's template; the walk is Qxb6001373aModsLaw's.
-/
import Derived.Test.Qxb6001373aModsLaw
import Derived.OpenShut
import Derived.ShutString
import Derived.ChangeOld
import Derived.Below
import Derived.Deep.Matrix
namespace Go.Proofs.Qxb6001373aMods.fnMakeRoomKeepsLedgerAndWord
open Go.ChangeShapes Go.WideShapes Go.ChangeAt Go.RowKit
set_option linter.unusedVariables false

theorem own : ownKnob Trym.prog.godebug = none := by kernel_rfl
theorem laidOut : laidOutB Trym.prog = true := by kernel_rfl
theorem cells3 : Trym.prog.cellsOf 3 = 1 := by kernel_rfl
theorem cells4 : Trym.prog.cellsOf 4 = 1 := by kernel_rfl
theorem cells36 : Trym.prog.cellsOf 36 = 1 := by kernel_rfl
theorem cells42 : Trym.prog.cellsOf 42 = 5 := by kernel_rfl

/-- One spec, out of its reading. -/
theorem spec_of_trod {H : Type} {enc : TypeId × Value → H} {W : World} {fuel : Nat} {cs : List Value} {x : DataW H × List MemPlace} (h : DataW.trod enc Trym.prog W 0 (fun _ => true) true fuel 42 cs = some x) :
    ∃ p : Pl, p.fit ∧ ∀ j, j < 5 → cs[j]? = some (spF p j) := by
  obtain ⟨xs, n, _, _, hl, hlen, hf⟩ := DataW.trod_struct Trym.underlying42 h
  rw [cells42] at hl
  match cs, hl with
  | [a, b, c, d, e], _ =>
    match xs, hlen with
    | [y0, y1, y2, y3, y4], _ =>
      have f0 := hf 0 _ rfl
      have f1 := hf 1 _ rfl
      have f2 := hf 2 _ rfl
      have f3 := hf 3 _ rfl
      have f4 := hf 4 _ rfl
      simp [cells3, cells4, cells36] at f0 f1 f2 f3 f4
      obtain ⟨la, e0, _, w0⟩ := DataW.trod_int Trym.underlying36 f0
      obtain ⟨un, e1, _, w1⟩ := DataW.trod_int Trym.underlying3 f1
      obtain ⟨he, e2, _, w2⟩ := DataW.trod_int Trym.underlying3 f2
      obtain ⟨wa, e3, _⟩ := DataW.trod_bool Trym.underlying4 f3
      obtain ⟨ad, e4, _⟩ := DataW.trod_bool Trym.underlying4 f4
      simp at e0 e1 e2 e3 e4
      subst e0 e1 e2 e3 e4
      have b0 := bounds_u64 w0
      have b1 := bounds_i64 w1
      have b2 := bounds_i64 w2
      refine ⟨⟨la, un, he, wa, ad⟩, ⟨b0.1, b0.2, b1.1, b1.2, b2.1, b2.2⟩, fun j hj => ?_⟩
      have hj' : j = 0 ∨ j = 1 ∨ j = 2 ∨ j = 3 ∨ j = 4 := by omega
      rcases hj' with rfl | rfl | rfl | rfl | rfl <;> rfl

theorem specs_of_trod {H : Type} {enc : TypeId × Value → H} {W : World} {a : Option Addr} {len cap : Nat} {d : DataW H} {p : List MemPlace} (h : DataW.Trod enc Trym.prog W 0 (fun _ => true) true 22 (.slice a len cap) d p) :
    ∃ st : Nat → Pl, SpecAt W (.slice a len cap) len st := by
  obtain ⟨fuel, hf⟩ := h
  rcases Go.Deep.open_slice Trym.underlying22 hf with ⟨hcs, _⟩ | ⟨x, l, c, m, n, D, Pls, hcs, _, hl, hm, hmm, _, hx⟩
  · simp [Value.cells] at hcs
    obtain ⟨rfl, rfl, rfl⟩ := hcs
    exact ⟨fun _ => ⟨0, 0, 0, false, false⟩, _, _, rfl, fun h => absurd h (by omega)⟩
  · simp [Value.cells] at hcs
    obtain ⟨rfl, rfl, rfl⟩ := hcs
    simp only [if_true] at hmm
    subst hmm
    have each : ∀ i, i < len → ∃ q : Pl, q.fit ∧ ∀ j, j < 5 → W.cell? (x.add (i * 5 + j)) = some (spF q j) := fun i hi => by
      obtain ⟨cs', h1, h2⟩ := hx i (by omega)
      rw [cells42] at h1
      obtain ⟨q, hq, hc⟩ := spec_of_trod h2
      refine ⟨q, hq, fun j hj => ?_⟩
      have := (World.cells?_some h1).2.2 j hj
      rw [← Go.Deep.add_add, this]
      exact hc j hj
    have : Inhabited Pl := ⟨⟨0, 0, 0, false, false⟩⟩
    obtain ⟨st, hst⟩ := Go.Deep.choose_lt each
    refine ⟨st, _, _, rfl, fun hn => ?_⟩
    obtain ⟨b, off, spot⟩ := x
    have hspot : spot = none := by simpa [Addr.add] using World.cell?_spot ((hst 0 hn).2 0 (by omega))
    subst hspot
    exact ⟨b, off, rfl, fun i hi => ⟨(hst i hi).1, fun j hj => by rw [Nat.add_assoc, ← Addr.add_mid]; exact (hst i hi).2 j hj⟩⟩

set_option maxRecDepth 100000 in
theorem lifted (os : Os) (started : os.Started) (H : Type) (enc : TypeId × Value → H) :
    ReturnsInHanded {} Trym.checked os 6 .any (Rows.fnMakeRoomKeepsLedgerAndWordSpec.pre6 enc Trym.prog Trym.f6 Rows.fnMakeRoomKeepsLedgerAndWordRow.domain false) (Rows.fnMakeRoomKeepsLedgerAndWordSpec.post enc Trym.prog Trym.f6 false true false false) := by
  refine returnsInHanded_of_change (C := Trym.checked) own started (by kernel_rfl) Trym.func6
    (ChangeSpec.witness6 (enc := enc) (C := Trym.checked) false ⟨#[], #[.int .i64 0, .slice none 0 0, .int .i64 0, .int .i64 0], []⟩ 8 (by kernel_rfl) (by kernel_rfl) (by kernel_rfl) (by kernel_rfl)) ?_
  intro W base args ds gs before hval0 hW hcnd _
  have hval : ∀ (j : Nat) t v, Trym.f6.params[j]? = some t → args[j]? = some v → Value.okWide Trym.prog W .any base t v := hval0
  have hW' := hW
  obtain ⟨p, q, hA0, hV, rfl, hfz, hnd⟩ := hW
  have hA : DataW.TrodAll enc Trym.prog W 0 (fun _ => true) true Trym.f6.params.toList args.toList ds p := hA0
  rw [Trym.params6] at hA hval
  obtain ⟨v0, vs0, d0, ds0, p0, q0, hargs, rfl, rfl, h0, r0⟩ := trodAll_cons hA
  obtain ⟨v1, vs1, d1, ds1, p1, q1, rfl, rfl, rfl, h1, r1⟩ := trodAll_cons r0
  obtain ⟨v2, vs2, d2, ds2, p2, q2, rfl, rfl, rfl, h2, r2⟩ := trodAll_cons r1
  obtain ⟨v3, vs3, d3, ds3, p3, q3, rfl, rfl, rfl, h3, r3⟩ := trodAll_cons r2
  obtain ⟨rfl, rfl, rfl⟩ := trodAll_nil r3
  obtain rfl : args = #[v0, v1, v2, v3] := by cases args; simp_all
  obtain ⟨rfl, rfl⟩ := trodVars_none hV
  obtain ⟨a1, len1, cap1, rfl⟩ := okWide_slice Trym.underlying22 (hval 1 22 v1 rfl rfl)
  have k0 := h0
  have k2 := h2
  have k3 := h3
  have lt0 : ∀ x ∈ p0, x.block < W.heap.size := by obtain ⟨m, hm⟩ := h0; exact DataW.trod_lt m _ _ _ hm
  have lt1 : ∀ x ∈ p1, x.block < W.heap.size := by obtain ⟨m, hm⟩ := h1; exact DataW.trod_lt m _ _ _ hm
  have lt2 : ∀ x ∈ p2, x.block < W.heap.size := by obtain ⟨m, hm⟩ := h2; exact DataW.trod_lt m _ _ _ hm
  have lt3 : ∀ x ∈ p3, x.block < W.heap.size := by obtain ⟨m, hm⟩ := h3; exact DataW.trod_lt m _ _ _ hm
  obtain ⟨st, w1⟩ := specs_of_trod h1
  obtain ⟨mx, rfl, _, _, _⟩ := open_int Trym.underlying3 (hval 0 3 v0 rfl rfl) h0
  obtain ⟨kk, rfl, _, _, wk⟩ := open_int Trym.underlying3 (hval 2 3 v2 rfl rfl) h2
  obtain ⟨cost, rfl, _, _, wc⟩ := open_int Trym.underlying3 (hval 3 3 v3 rfl rfl) h3
  have bk := bounds_i64 wk
  have bc := bounds_i64 wc
  clear hA0 hval0
  refine (law_any len1 mx kk cost st _ W w1 bk.1 bk.2 bc.2).mono fun e W' ⟨he, bel⟩ => ?_
  subst he
  exact ⟨_, rfl, _, _, _, [], _, [], hW', trodAll_mk1 (shut_bool Trym.underlying4 _), (trodAll_cons_mk (Below.trod laidOut (by kernel_rfl) (of_decide_eq_true (by kernel_rfl)) k0 bel lt0) (trodAll_cons_mk (Below.trod laidOut (by kernel_rfl) (of_decide_eq_true (by kernel_rfl)) h1 bel lt1) (trodAll_cons_mk (Below.trod laidOut (by kernel_rfl) (of_decide_eq_true (by kernel_rfl)) k2 bel lt2) (trodAll_cons_mk (Below.trod laidOut (by kernel_rfl) (of_decide_eq_true (by kernel_rfl)) k3 bel lt3) trodAll_mk0)))), rfl, bel.frame _, fun h => by cases h⟩

theorem over : Rows.fnMakeRoomKeepsLedgerAndWordRow.holds Trym.pinned (OpenSpec.ofChange Rows.fnMakeRoomKeepsLedgerAndWordSpec) :=
  OpenClaim.holds_of_wide 6 Trym.f6 rfl rfl rfl rfl rfl rfl rfl ⟨rfl, rfl, rfl, rfl, rfl⟩ rfl rfl rfl rfl rfl (by kernel_rfl) Trym.func6 (by kernel_rfl)
    (of_decide_eq_true (by kernel_rfl)) (by unfold Func.isWrapper; first | (rw [if_pos (by decide +kernel)]; kernel_rfl) | (rw [if_neg (by decide +kernel)]; exact ⟨rfl, rfl⟩))
    (fun os started H enc _ => lifted os started H enc)

/-- ████ THE STATEMENT ████ -/
theorem proved : Rows.FnMakeRoomKeepsLedgerAndWordSaid := over
end Go.Proofs.Qxb6001373aMods.fnMakeRoomKeepsLedgerAndWord
