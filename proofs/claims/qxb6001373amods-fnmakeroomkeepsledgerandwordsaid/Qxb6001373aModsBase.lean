/-
  Laws of my own for rows that the call itself makes: made, stored into, copied into; the world behind each step under a name of its own, told by 'rowIs', 'Only' and 'Below'. And 'SlcAt': what a slice value leads to.
-/
import Derived.Test.Qxb6001373aModsRows
import Derived.WalkKit
import Derived.ProofKit
import Derived.WalkSpells
import Derived.WalkLawsBesides
import Derived.Outline
import Derived.BigQuiet
import Derived.Deep.QuietTactic
import Derived.Deep.MidRow
import Derived.Deep.WholeRow
import Derived.Deep.OwnRows
import Derived.Laws.CopyOwn
import Derived.RegionTactic
import Derived.BigRegion
namespace Go.Proofs.Qxb6001373aMods
open Go.RowKit

section
variable {P : Program}

/-- The cells of a row as a list. -/
def rowL (n : Nat) (f : Nat → Value) : List Value := (List.range n).map f
theorem rowL_length (n : Nat) (f : Nat → Value) : (rowL n f).length = n := by simp [rowL]
theorem rowL_get (n : Nat) (f : Nat → Value) (j : Nat) (h : j < n) : (rowL n f)[j]? = some (f j) := by simp [rowL, h]
theorem rowL_lt {n : Nat} {f : Nat → Value} {j : Nat} {v : Value} (h : (rowL n f)[j]? = some v) : j < n ∧ v = f j := by
  have hj : j < n := by
    obtain ⟨hlt, _⟩ := List.getElem?_eq_some_iff.1 h
    rw [rowL_length] at hlt
    exact hlt
  rw [rowL_get n f j hj] at h
  exact ⟨hj, by simpa using h.symm⟩
theorem rowL_one {n : Nat} {f : Nat → Value} (h : ∀ j, j < n → (f j).oneCell' = true) : ∀ v ∈ rowL n f, v.oneCell' = true := by
  intro v hv
  simp [rowL] at hv
  obtain ⟨a, ha, rfl⟩ := hv
  exact h a ha

/-- w1 is w but for what lies in block g. -/
structure Only (g : Nat) (w w1 : World) : Prop where
  os : w1.os = w.os
  tape : w1.tape = w.tape
  output : w1.output = w.output
  size : w1.heap.size = w.heap.size
  block : ∀ k, k ≠ g → w1.heap[k]? = w.heap[k]?
theorem Only.below {g B : Nat} {w w1 : World} (h : Only g w w1) (hB : B ≤ g) : Below B w w1 := ⟨h.os, h.tape, h.output, by rw [h.size]; exact Nat.le_refl _, fun k hk => h.block k (by omega)⟩
theorem Only.row {g b n : Nat} {t : TypeId} {f : Nat → Value} {w w1 : World} (h : Only g w w1) (hr : w.rowIs b t n f) (hb : b ≠ g) : w1.rowIs b t n f := hr.of_block (h.block b hb)
theorem only_setCell (w : World) (g i : Nat) (v : Value) : Only g w (w.setCell ⟨g, i, none⟩ v) := ⟨rfl, rfl, rfl, by simp [World.setCell], fun k hk => Below.heap_setCell _ _ _ _ hk⟩
theorem Only.trans {g : Nat} {w w1 w2 : World} (h : Only g w w1) (k : Only g w1 w2) : Only g w w2 :=
  ⟨k.os.trans h.os, k.tape.trans h.tape, k.output.trans h.output, k.size.trans h.size, fun i hi => (k.block i hi).trans (h.block i hi)⟩
theorem Only.drew {g : Nat} {w w1 : World} (h : Only g w w1) : Only g w w1.drew := ⟨h.os, h.tape, h.output, h.size, h.block⟩
theorem only_refl (g : Nat) (w : World) : Only g w w := ⟨rfl, rfl, rfl, rfl, fun _ _ => rfl⟩
theorem only_setRow (g : Nat) (w : World) (cs : Array Value) : Only g w (w.setRow g cs) := ⟨rfl, rfl, rfl, by simp, fun k hk => setRow_other w g k cs (by omega)⟩

theorem below_row {B b n : Nat} {t : TypeId} {f : Nat → Value} {w w1 : World} (h : Below B w w1) (hr : w.rowIs b t n f) (hb : b < B) : w1.rowIs b t n f := hr.of_block (h.block b hb)

/-- 'make([]T, n)', T of one cell: the world behind it under a name of its own. -/
theorem wpList_make_named (w : World) {ops : Array Oper} {rest : List Oper} {o : Oper} {a : Act} {Q : Exit → Act → World → Prop}
    (hg : o.guard = none) (l c : Operand) (t : TypeId) (hop : o.op = Op.makeSlice t l c)
    (e : TypeId) (z : Value) (bytes : Nat) (ht : P.underlying t = some (.slice e)) (hinfo : (P.info? e).map (fun i => (i.zero, i.size, i.bytes)) = some (some z, 1, bytes)) (hz1 : z.cells = #[z])
    (kl kc : IntKind) (n : Nat) (hl : a.eval l = .int kl (n : Int)) (hc : a.eval c = .int kc (n : Int)) (hbytes : bytes * n ≤ 281474976710656) (h63 : n ≤ 9223372036854775807)
    (g : Nat) (hgs : w.heap.size = g)
    (hK : ∀ w1 : World, w1.rowIs g e n (fun _ => z) → w1.heap.size = g + 1 → Below g w w1 → wpList P ops Q rest (a.put o.dst (.slice (some ⟨g, 0, none⟩) n n)) w1) :
    wpList P ops Q (o :: rest) a w := by
  subst hgs
  refine wpList_plain hg fun K hK' => ?_
  have hrun := run_make_row' (P := P) t e z bytes ht hinfo hz1 kl kc n hbytes h63 w
  unfold Oper.wp
  simp [execOp, hop, hl, hc, hrun, Result.andThen]
  exact hK' _ _ (hK _ (World.rowIs_made w z n e) (by simp) ((Below.refl _ _).alloc (Nat.le_refl _) _))

/-- 'make([]T, n)', T of several cells. -/
theorem wpList_make_wide (w : World) {ops : Array Oper} {rest : List Oper} {o : Oper} {a : Act} {Q : Exit → Act → World → Prop}
    (hg : o.guard = none) (l c : Operand) (t : TypeId) (hop : o.op = Op.makeSlice t l c)
    (e : TypeId) (z : Value) (size bytes : Nat) (ht : P.underlying t = some (.slice e)) (hinfo : (P.info? e).map (fun i => (i.zero, i.size, i.bytes)) = some (some z, size, bytes))
    (f : Nat → Value) (hf : ∀ i, z.cells[i % z.cells.size]! = f i)
    (kl kc : IntKind) (n : Nat) (hl : a.eval l = .int kl (n : Int)) (hc : a.eval c = .int kc (n : Int)) (hbytes : bytes * n ≤ 281474976710656) (h63 : n ≤ 9223372036854775807)
    (g : Nat) (hgs : w.heap.size = g)
    (hK : ∀ w1 : World, w1.rowIs g e (n * size) f → w1.heap.size = g + 1 → Below g w w1 → wpList P ops Q rest (a.put o.dst (.slice (some ⟨g, 0, none⟩) n n)) w1) :
    wpList P ops Q (o :: rest) a w := by
  subst hgs
  refine wpList_plain hg fun K hK' => ?_
  obtain ⟨i, hi, hz, hs, hb⟩ := info_parts hinfo
  have hb' : (i.bytes : Int) * (n : Int) ≤ 281474976710656 := by
    have h : ((i.bytes * n : Nat) : Int) ≤ 281474976710656 := by rw [hb]; omega
    rwa [Int.natCast_mul] at h
  have hrun := run_make (P := P) w t e i z ht hi hz kl kc n n (by omega) (Int.le_refl _) hb' (by omega)
  simp only [Int.toNat_natCast, hs] at hrun
  unfold Oper.wp
  simp [execOp, hop, hl, hc, hrun, Result.andThen]
  refine hK' _ _ (hK _ ⟨_, heap_alloc_new _ _, size_madeCells _ _, fun j hj => ?_⟩ (by simp) ((Below.refl _ _).alloc (Nat.le_refl _) _))
  simp [madeCells, hj, ← hf]

theorem run_storeVar_cell (w : World) (e : TypeId) (hi : (P.info? e).map (·.size) = some 1) (b o : Nat) (v u : Value) (h1 : v.oneCell' = true) (hc : w.cell? ⟨b, o, none⟩ = some u) (hf : w.frozen? ⟨b, o, none⟩ = false) :
    (storeVar e ⟨b, o, none⟩ v).run P w = .ok () (w.setCell ⟨b, o, none⟩ v) := by
  have hcells : v.cells = #[v] := by cases v <;> first | rfl | simp [Value.oneCell'] at h1
  have := run_storeCells_cells (P := P) b o [v] 0 w (fun j hj => by simp at hj; subst hj; simp [hc]) (fun j hj => by simp at hj; subst hj; simpa using hf) (by simpa using h1)
  cases hq : P.info? e with
  | none => simp [hq] at hi
  | some i =>
    have hs : i.size = 1 := by simpa [hq] using hi
    simp only [Nat.add_zero, World.setCells] at this
    simp [storeVar, sizeOf, typeInfo, hq, hcells, hs, this]

/-- One cell of an own row is written: the world behind it under a name of its own. -/
theorem wpList_store_cell {ops : Array Oper} {rest : List Oper} {o : Oper} {a : Act} {w : World} {Q : Exit → Act → World → Prop} (hgd : o.guard = none) (ty : TypeId) (x y : Operand) (ho : o.op = .store ty x y)
    (g i n : Nat) (f : Nat → Value) (v : Value) (hx : a.eval x = .pointer (some ⟨g, i, none⟩)) (hy : a.eval y = v) (h1 : v.oneCell' = true)
    (t : TypeId) (hg : w.rowIs g t n f) (hin : i < n) (hi : (P.info? ty).map (·.size) = some 1)
    (h : ∀ w1 : World, w1.rowIs g t n (fun j => if j = i then v else f j) → Only g w w1 → wpList P ops Q rest (a.put o.dst undef) w1) : wpList P ops Q (o :: rest) a w := by
  refine wpList_plain hgd fun K hK => ?_
  have hrun := run_storeVar_cell (P := P) w ty hi g i v (f i) h1 (hg.cell hin) (hg.frozen i)
  unfold Oper.wp execOp
  simp only [ho, hx, hy, Instr.storeAt, Instr.sureAddr, Sem.run_bind, Sem.run_pure, Result.andThen_ok, hrun]
  exact hK _ _ (h _ (hg.set i v) (only_setCell w g i v))

/-- Several cells of a row, loaded from its middle. -/
theorem wpList_load_part {ops : Array Oper} {rest : List Oper} {op : Oper} {a : Act} {w : World} {Q : Exit → Act → World → Prop} (hgd : op.guard = none) (ty : TypeId) (x : Operand) (ho : op.op = .load ty x)
    (b o n : Nat) (f : Nat → Value) (hx : a.eval x = .pointer (some ⟨b, o, none⟩)) (d : TypeDesc) (hc : ∀ j, j < n → w.cell? ⟨b, o + j, none⟩ = some (f j))
    (hu : P.underlying ty = some d) (hd : d.isRow = true) (hi : (P.info? ty).map (·.size) = some n)
    (h : wpList P ops Q rest (a.put op.dst (.agg (rowL n f).toArray)) w) : wpList P ops Q (op :: rest) a w :=
  wpList_load_mid hgd ty x ho b o hx (rowL n f) d (fun j v hv => by
    obtain ⟨hj, rfl⟩ := rowL_lt hv
    exact hc j hj) hu hd (by rw [rowL_length]; exact hi) h

/-- A whole struct or array stored into the block that was made last. -/
theorem wpList_store_fresh {ops : Array Oper} {rest : List Oper} {o : Oper} {a : Act} {w0 : World} {Q : Exit → Act → World → Prop} (hgd : o.guard = none) (ty : TypeId) (x y : Operand) (ho : o.op = .store ty x y)
    (g n : Nat) (f : Nat → Value) (hx : a.eval x = .pointer (some ⟨g, 0, none⟩)) (hy : a.eval y = .agg (rowL n f).toArray)
    (t : TypeId) (old : Array Value) (hgs : w0.heap.size = g) (hi : (P.info? ty).map (·.size) = some n)
    (hold : old.size = n) (h1 : ∀ j, j < n → (f j).oneCell' = true)
    (h : ∀ w1 : World, w1.rowIs g t n f → w1.heap.size = g + 1 → Below g w0 w1 → wpList P ops Q rest (a.put o.dst undef) w1) : wpList P ops Q (o :: rest) a (w0.alloc (.cells old t)) := by
  subst hgs
  refine wpList_store_row hgd ty x y ho w0.heap.size (rowL n f).toArray hx hy t old (heap_alloc_new _ _) (by simpa [rowL_length] using hi) (by simpa [rowL_length] using hold) (all_oneCell_toArray (rowL_one h1)) (h _ ?_ ?_ ?_)
  · exact ⟨_, setRow_heap _ _ old _ t _ (heap_alloc_new _ _), by simp [rowL_length], fun i hi => by simpa using rowL_get n f i hi⟩
  · simp
  · exact ((Below.refl _ _).alloc (Nat.le_refl _) _).trans ((only_setRow _ _ _).below (Nat.le_refl _))

/-- The built-in copy of a whole slice into an own row of the same length. -/
theorem wpList_copy_named {ops : Array Oper} {rest : List Oper} {o : Oper} {a : Act} {w : World} {Q : Exit → Act → World → Prop} (hgd : o.guard = none) (d s : Operand) (dT sT : TypeId)
    (ho : o.op = .call { callee := .builtin .copy, args := #[d, s], argTypes := #[dT, sT] }) (elem : TypeId) (hu : P.underlying dT = some (.slice elem)) (hsz : (P.info? elem).map (·.size) = some 1)
    (g n dCap : Nat) (ad : Addr) (sCap : Nat) (hd : a.eval d = .slice (some ⟨g, 0, none⟩) n dCap) (hs : a.eval s = .slice (some ad) n sCap)
    (t : TypeId) (f0 f : Nat → Value) (hg : w.rowIs g t n f0) (hsrc : ∀ j, j < n → w.cell? (ad.add j) = some (f j)) (h1 : ∀ j, j < n → (f j).oneCell' = true)
    (h : ∀ w1 : World, w1.rowIs g t n f → Only g w w1 → wpList P ops Q rest (a.put o.dst (goInt n)) w1) : wpList P ops Q (o :: rest) a w := by
  obtain ⟨cur, hcur, hcs, _⟩ := hg
  refine wpList_copy_own hgd d s dT sT ho elem hu hsz g 0 n dCap ad n sCap hd hs cur t hcur (rowL n f) (by simp [rowL_length]) (fun j v hv => ?_) (by simp [rowL_length, hcs]) (rowL_one h1) ?_
  · obtain ⟨hj, rfl⟩ := rowL_lt hv
    exact hsrc j hj
  · rw [rowL_length]
    refine h _ ⟨_, setRow_heap w g cur _ t _ hcur, ?_, fun j hj => ?_⟩ (only_setRow _ _ _)
    · simp [rowL_length, hcs]
    · simp
      rw [List.getElem?_append_left (by rw [rowL_length]; exact hj), rowL_get n f j hj]
end

/-- What a slice value of n one-cell elements leads to; every cell lies in a block from 'lo' on. -/
def SlcAt (lo : Nat) (w : World) (v : Value) (n : Nat) (f : Nat → Value) : Prop :=
  ∃ a c, v = .slice a n c ∧ (0 < n → ∃ b o, a = some ⟨b, o, none⟩ ∧ lo ≤ b ∧ ∀ j, j < n → w.cell? ⟨b, o + j, none⟩ = some (f j))
namespace SlcAt
variable {lo : Nat} {w w1 : World} {v : Value} {n : Nat} {f : Nat → Value}
theorem below {B : Nat} (h : SlcAt lo w v n f) (hb : Below B w w1) (hB : w.heap.size ≤ B) : SlcAt lo w1 v n f := by
  obtain ⟨a, c, rfl, h⟩ := h
  refine ⟨a, c, rfl, fun hn => ?_⟩
  obtain ⟨b, o, rfl, hl, hc⟩ := h hn
  have hlt := block_lt_of_cell (hc 0 hn)
  exact ⟨b, o, rfl, hl, fun j hj => (hb.cell (p := ⟨b, o + j, none⟩) (Nat.lt_of_lt_of_le hlt hB)).trans (hc j hj)⟩
theorem only {g : Nat} (h : SlcAt lo w v n f) (ho : Only g w w1) (hg : g < lo) : SlcAt lo w1 v n f := by
  obtain ⟨a, c, rfl, h⟩ := h
  refine ⟨a, c, rfl, fun hn => ?_⟩
  obtain ⟨b, o, rfl, hl, hc⟩ := h hn
  exact ⟨b, o, rfl, hl, fun j hj => (World.cell?_of_block (w := w) (ho.block b (by omega))).trans (hc j hj)⟩
theorem mono {lo' : Nat} (h : SlcAt lo w v n f) (hl' : lo' ≤ lo) : SlcAt lo' w v n f := by
  obtain ⟨a, c, rfl, h⟩ := h
  refine ⟨a, c, rfl, fun hn => ?_⟩
  obtain ⟨b, o, rfl, hl, hc⟩ := h hn
  exact ⟨b, o, rfl, by omega, hc⟩
theorem one (h : SlcAt lo w v n f) : v.oneCell' = true := by
  obtain ⟨a, c, rfl, _⟩ := h
  rfl
theorem drew (h : SlcAt lo w v n f) : SlcAt lo w.drew v n f := h
theorem drewN (h : SlcAt lo w v n f) (k : Nat) : SlcAt lo (w.drewN k) v n f := h
theorem congr {g : Nat → Value} (h : SlcAt lo w v n f) (e : ∀ j, j < n → f j = g j) : SlcAt lo w v n g := by
  obtain ⟨a, c, rfl, h⟩ := h
  refine ⟨a, c, rfl, fun hn => ?_⟩
  obtain ⟨b, o, rfl, hl, hc⟩ := h hn
  exact ⟨b, o, rfl, hl, fun j hj => by rw [← e j hj]; exact hc j hj⟩
end SlcAt
theorem slcAt_row {w : World} {g n : Nat} {t : TypeId} {f : Nat → Value} (h : w.rowIs g t n f) : SlcAt g w (.slice (some ⟨g, 0, none⟩) n n) n f :=
  ⟨_, _, rfl, fun _ => ⟨g, 0, rfl, Nat.le_refl _, fun j hj => by rw [Nat.zero_add]; exact h.cell hj⟩⟩

/-- A family of values, its first k told: the next one is told. -/
theorem tell_next (V : Nat → Value) (v z : Value) (k t : Nat) : (if t = k then v else if t < k then V t else z) = if t < k + 1 then (if t = k then v else V t) else z := by
  by_cases e : t = k
  · subst e; simp
  · rw [if_neg e]
    by_cases e' : t < k
    · rw [if_pos e', if_pos (by omega), if_neg e]
    · rw [if_neg e', if_neg (by omega)]

/-- Nothing but draws parts w1 from w. -/
def Drawn (w w1 : World) : Prop := w1.os = w.os ∧ w1.tape = w.tape ∧ w1.output = w.output ∧ w1.heap = w.heap
theorem drawn_refl (w : World) : Drawn w w := ⟨rfl, rfl, rfl, rfl⟩
theorem Drawn.cell {w w1 : World} (h : Drawn w w1) (a : Addr) : w1.cell? a = w.cell? a := by simp [World.cell?, h.2.2.2]
theorem Drawn.below {w w1 : World} (h : Drawn w w1) (B : Nat) : Below B w w1 := ⟨h.1, h.2.1, h.2.2.1, by rw [h.2.2.2]; exact Nat.le_refl _, fun k _ => by rw [h.2.2.2]⟩
theorem Drawn.size {w w1 : World} (h : Drawn w w1) : w1.heap.size = w.heap.size := by rw [h.2.2.2]
theorem Drawn.trans {w w1 w2 : World} (h : Drawn w w1) (k : Drawn w1 w2) : Drawn w w2 := ⟨k.1.trans h.1, k.2.1.trans h.2.1, k.2.2.1.trans h.2.2.1, k.2.2.2.trans h.2.2.2⟩
theorem Drawn.row {w w1 : World} {b n : Nat} {t : TypeId} {f : Nat → Value} (h : Drawn w w1) (hr : w.rowIs b t n f) : w1.rowIs b t n f := hr.of_block (by rw [h.2.2.2])

/-- It returned a bool that meets p. -/
def RetB (e : Ending) (p : Bool → Prop) : Prop := ∃ b, e = .returned (.bool b) ∧ p b

end Go.Proofs.Qxb6001373aMods
