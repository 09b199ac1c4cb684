/-
  Small laws on blocks of cells that the call itself owns, and the operations' laws that the walks use. No Go text of its own.
-/
import Derived.Test.Qxb6000070aModsRows
import Derived.WalkKit
import Derived.WalkSpells
import Derived.WalkLawsBesides
import Derived.Deep.WholeRow
import Derived.Deep.MidRow
import Derived.StillTailTactics
namespace Go.Proofs.Qxb6000070aMods
open Go.RowKit

/-- Block b is a row of the cells vs, none frozen. -/
def Row (w : World) (b : Nat) (t : TypeId) (vs : List Value) : Prop := w.heap[b]? = some (.cells vs.toArray t (0, 0))

/-- Natural numbers as values of the kind k. -/
def ints (k : IntKind) (l : List Nat) : List Value := l.map fun (p : Nat) => Value.int k (p : Int)

theorem ints_length (k : IntKind) (l : List Nat) : (ints k l).length = l.length := by simp [ints]
theorem ints_set (k : IntKind) (l : List Nat) (i p : Nat) : (ints k l).set i (.int k (p : Int)) = ints k (l.set i p) := by
  simp [ints, List.map_set]
theorem ints_get (k : IntKind) (l : List Nat) (i : Nat) (h : i < l.length) : (ints k l)[i]? = some (.int k ((l.getD i 0 : Nat) : Int)) := by
  simp [ints, List.getD, h]

theorem Row.lt {w : World} {b : Nat} {t : TypeId} {vs : List Value} (h : Row w b t vs) : b < w.heap.size := by
  unfold Row at h
  exact (Array.getElem?_eq_some_iff.1 h).1
theorem Row.cell {w : World} {b : Nat} {t : TypeId} {vs : List Value} (h : Row w b t vs) (k : Nat) : w.cell? ⟨b, k, none⟩ = vs[k]? := by
  rw [cell_of_row w b k _ _ _ h]; simp
theorem Row.int {w : World} {b : Nat} {t : TypeId} {k : IntKind} {l : List Nat} (h : Row w b t (ints k l)) (i : Nat) (hi : i < l.length) :
    w.cell? ⟨b, i, none⟩ = some (.int k ((l.getD i 0 : Nat) : Int)) := by
  rw [h.cell, ints_get k l i hi]
theorem Row.free {w : World} {b : Nat} {t : TypeId} {vs : List Value} (h : Row w b t vs) (k : Nat) : w.frozen? ⟨b, k, none⟩ = false := by
  exact frozen_of_row w b k _ _ h
theorem Row.set {w : World} {b : Nat} {t : TypeId} {vs : List Value} (h : Row w b t vs) (k : Nat) (v : Value) : Row (w.setCell ⟨b, k, none⟩ v) b t (vs.set k v) := by
  unfold Row at h ⊢
  simp [World.setCell, Array.getElem?_modify, h]
theorem Row.setInt {w : World} {b : Nat} {t : TypeId} {k : IntKind} {l : List Nat} (h : Row w b t (ints k l)) (i p : Nat) :
    Row (w.setCell ⟨b, i, none⟩ (.int k (p : Int))) b t (ints k (l.set i p)) := by
  have := h.set i (.int k (p : Int))
  rwa [ints_set] at this
theorem Row.other {w : World} {b : Nat} {t : TypeId} {vs : List Value} (h : Row w b t vs) (a : Addr) (hne : b ≠ a.block) (v : Value) : Row (w.setCell a v) b t vs := by
  unfold Row at h ⊢
  rw [heap_setCell_other w a b v hne]; exact h
theorem Row.drew {w : World} {b : Nat} {t : TypeId} {vs : List Value} (h : Row w b t vs) : Row w.drew b t vs := h
theorem Row.alloc {w : World} {b : Nat} {t : TypeId} {vs : List Value} (h : Row w b t vs) (o : Obj) : Row (w.alloc o) b t vs := by
  unfold Row
  rw [Go.heap_alloc_old w o h.lt]; exact h
theorem Row.grown {w w' : World} {r : Option Nat} {b : Nat} {t : TypeId} {vs : List Value} (h : Row w b t vs) (hg : w.grownBy w' r) (hne : some b ≠ r) : Row w' b t vs := by
  unfold Row
  rw [hg.block b h.lt hne]; exact h
theorem Row.new (w : World) (t : TypeId) (vs : List Value) : Row (w.alloc (.cells vs.toArray t)) w.heap.size t vs := by
  unfold Row
  rw [heap_alloc_new]
theorem Row.newAt (w : World) (t : TypeId) (vs : List Value) (b : Nat) (hb : b = w.heap.size) : Row (w.alloc (.cells vs.toArray t)) b t vs := by
  subst hb; exact Row.new w t vs
theorem Row.newRep (w : World) (t : TypeId) (v : Value) (n b : Nat) (hb : b = w.heap.size) : Row (w.alloc (.cells (Array.replicate n v) t)) b t (List.replicate n v) := by
  subst hb
  unfold Row
  rw [heap_alloc_new]
  simp
theorem Row.of_block {w w' : World} {b : Nat} {t : TypeId} {vs : List Value} (h : Row w b t vs) (e : w'.heap[b]? = w.heap[b]?) : Row w' b t vs := by
  unfold Row; rw [e]; exact h

/-- What is kept: w' is w with new blocks, and with writes to the blocks of the list X alone. -/
structure Kept (X : List Nat) (w w' : World) : Prop where
  os : w'.os = w.os
  tape : w'.tape = w.tape
  output : w'.output = w.output
  size : w.heap.size ≤ w'.heap.size
  block : ∀ k, k < w.heap.size → ¬ k ∈ X → w'.heap[k]? = w.heap[k]?

theorem Kept.refl (X : List Nat) (w : World) : Kept X w w := ⟨rfl, rfl, rfl, Nat.le_refl _, fun _ _ _ => rfl⟩
theorem Kept.trans {X : List Nat} {a b c : World} (h : Kept X a b) (k : Kept X b c) : Kept X a c :=
  ⟨k.os.trans h.os, k.tape.trans h.tape, k.output.trans h.output, Nat.le_trans h.size k.size,
    fun i hi hx => (k.block i (Nat.lt_of_lt_of_le hi h.size) hx).trans (h.block i hi hx)⟩
/-- Two steps, where the second may also write to blocks that are new behind the first. -/
theorem Kept.then {X Y : List Nat} {a b c : World} (h : Kept X a b) (k : Kept Y b c) (hxy : ∀ i, i < a.heap.size → i ∈ Y → i ∈ X) : Kept X a c :=
  ⟨k.os.trans h.os, k.tape.trans h.tape, k.output.trans h.output, Nat.le_trans h.size k.size,
    fun i hi hx => (k.block i (Nat.lt_of_lt_of_le hi h.size) (fun hy => hx (hxy i hi hy))).trans (h.block i hi hx)⟩
theorem Kept.mono {X Y : List Nat} {a b : World} (h : Kept X a b) (hxy : ∀ i, i < a.heap.size → i ∈ X → i ∈ Y) : Kept Y a b :=
  ⟨h.os, h.tape, h.output, h.size, fun i hi hy => h.block i hi (fun hx => hy (hxy i hi hx))⟩
theorem Kept.drew {X : List Nat} {a w : World} (h : Kept X a w) : Kept X a w.drew := ⟨h.os, h.tape, h.output, h.size, h.block⟩
theorem Kept.drewN {X : List Nat} {a w : World} (h : Kept X a w) (n : Nat) : Kept X a (w.drewN n) := ⟨h.os, h.tape, h.output, h.size, h.block⟩
theorem Kept.alloc {X : List Nat} {a w : World} (h : Kept X a w) (o : Obj) : Kept X a (w.alloc o) :=
  h.then (Y := []) ⟨rfl, rfl, rfl, by simp, fun k hk _ => Go.heap_alloc_old w o hk⟩ (by simp)
theorem Kept.setCell {X : List Nat} {a w : World} (h : Kept X a w) {p : Addr} (hp : a.heap.size ≤ p.block ∨ p.block ∈ X) (u : Value) : Kept X a (w.setCell p u) :=
  h.then (Y := [p.block]) ⟨rfl, rfl, rfl, by simp [World.setCell], fun k _ hx => heap_setCell_other w p k u (by simpa using hx)⟩
    (fun i hi hy => by
      simp at hy; subst hy
      rcases hp with hp | hp
      · omega
      · exact hp)
theorem Kept.row {X : List Nat} {w w' : World} {b : Nat} {t : TypeId} {vs : List Value} (h : Kept X w w') (r : Row w b t vs) (hne : ¬ b ∈ X) : Row w' b t vs :=
  r.of_block (h.block b r.lt hne)
theorem Kept.cell {X : List Nat} {w w' : World} (h : Kept X w w') {a : Addr} {v : Value} (hc : w.cell? a = some v) (hne : ¬ a.block ∈ X) : w'.cell? a = some v :=
  (World.cell?_of_block (h.block a.block (World.block_lt_of_cell? w a hc) hne)).trans hc
theorem Kept.below {X : List Nat} {B : Nat} {w w' : World} (h : Kept X w w') (hB : B ≤ w.heap.size) (hX : ∀ i, i ∈ X → B ≤ i) : Below B w w' :=
  ⟨h.os, h.tape, h.output, h.size, fun k hk => h.block k (by omega) (fun hx => by have := hX k hx; omega)⟩
theorem Kept.of_grown {w w' : World} (h : w.grownBy w' none) : Kept [] w w' := ⟨h.os, h.tape, h.output, h.size, fun k hk _ => h.block k hk (by simp)⟩

/-- Six cells stored, one behind the other, at the head of a block of six. -/
theorem six_facts (w : World) (R : Nat) (t : TypeId) (y0 y1 y2 y3 y4 y5 : Value) (x0 x1 x2 x3 x4 x5 : Value) (r : Row w R t [y0, y1, y2, y3, y4, y5]) :
    ∃ wf, wf = (((((w.setCell ⟨R, 0, none⟩ x0).setCell ⟨R, 1, none⟩ x1).setCell ⟨R, 2, none⟩ x2).setCell ⟨R, 3, none⟩ x3).setCell ⟨R, 4, none⟩ x4).setCell ⟨R, 5, none⟩ x5 ∧
      Row wf R t [x0, x1, x2, x3, x4, x5] ∧ (∀ b t vs, b ≠ R → Row w b t vs → Row wf b t vs) ∧ (∀ X a, Kept X a w → (a.heap.size ≤ R ∨ R ∈ X) → Kept X a wf) ∧ wf.heap.size = w.heap.size := by
  refine ⟨_, rfl, ?_, ?_, ?_, ?_⟩
  · have := (((((r.set 0 x0).set 1 x1).set 2 x2).set 3 x3).set 4 x4).set 5 x5
    simpa only [List.set_cons_zero, List.set_cons_succ] using this
  · intro b t vs hb q
    exact (((((q.other _ hb _).other _ hb _).other _ hb _).other _ hb _).other _ hb _).other _ hb _
  · intro X a k h
    exact (((((k.setCell h _).setCell h _).setCell h _).setCell h _).setCell h _).setCell h _
  · simp [World.setCell]
/-- What the walk wants of a block of six: its cells, and that they may be written. -/
theorem Row.six {w : World} {R : Nat} {t : TypeId} {y0 y1 y2 y3 y4 y5 : Value} (r : Row w R t [y0, y1, y2, y3, y4, y5]) :
    (w.cell? ⟨R, 0, none⟩ = some y0 ∧ w.cell? ⟨R, 1, none⟩ = some y1 ∧ w.cell? ⟨R, 2, none⟩ = some y2 ∧ w.cell? ⟨R, 3, none⟩ = some y3 ∧ w.cell? ⟨R, 4, none⟩ = some y4 ∧ w.cell? ⟨R, 5, none⟩ = some y5) ∧
    (w.frozen? ⟨R, 0, none⟩ = false ∧ w.frozen? ⟨R, 1, none⟩ = false ∧ w.frozen? ⟨R, 2, none⟩ = false ∧ w.frozen? ⟨R, 3, none⟩ = false ∧ w.frozen? ⟨R, 4, none⟩ = false ∧ w.frozen? ⟨R, 5, none⟩ = false) :=
  ⟨⟨by rw [r.cell]; rfl, by rw [r.cell]; rfl, by rw [r.cell]; rfl, by rw [r.cell]; rfl, by rw [r.cell]; rfl, by rw [r.cell]; rfl⟩,
   ⟨r.free 0, r.free 1, r.free 2, r.free 3, r.free 4, r.free 5⟩⟩

/-! ### make -/
theorem madeCells_one (z : Value) (h : z.cells = #[z]) (n : Nat) : madeCells z.cells n = Array.replicate n z := by
  rw [h]
  apply Array.ext
  · simp [madeCells]
  · intro i h1 h2
    simp [madeCells, Nat.mod_one]

theorem run_make1 {P : Program} (w : World) (t e : TypeId) (z : Value) (bytes : Nat) (ht : P.underlying t = some (.slice e))
    (hi : (P.info? e).map (fun i => (i.zero, i.size, i.bytes)) = some (some z, 1, bytes)) (hz : z.cells = #[z]) (n : Nat) (hb : bytes ≤ 16) (hn : n ≤ 1073741824) :
    (Instr.makeSlice t (.int .i64 n) (.int .i64 n)).run P w = .ok (.slice (some ⟨w.heap.size, 0, none⟩) n n) (w.alloc (.cells (List.replicate n z).toArray e)) := by
  obtain ⟨i, h1, h2, h3, h4⟩ := info_parts hi
  have hm : bytes * n ≤ 16 * 1073741824 := Nat.mul_le_mul hb hn
  have h5 : (i.bytes : Int) * (n : Int) ≤ 281474976710656 := by
    rw [h4, ← Int.natCast_mul]; omega
  have := run_make (P := P) w t e i z ht h1 h2 .i64 .i64 (n : Int) (n : Int) (by omega) (by omega) h5 (by omega)
  rw [this, h3]
  simp only [Int.toNat_natCast, Nat.mul_one, madeCells_one z hz, List.toArray_replicate]

theorem Trym.infoU64 : (Trym.prog.info? 44).map (fun i => (i.zero, i.size, i.bytes)) = some (some (.int .u64 0), 1, 8) := by kernel_rfl
theorem Trym.infoU32 : (Trym.prog.info? 24).map (fun i => (i.zero, i.size, i.bytes)) = some (some (.int .u32 0), 1, 4) := by kernel_rfl
theorem Trym.infoU16 : (Trym.prog.info? 34).map (fun i => (i.zero, i.size, i.bytes)) = some (some (.int .u16 0), 1, 2) := by kernel_rfl
theorem Trym.infoBool : (Trym.prog.info? 4).map (fun i => (i.zero, i.size, i.bytes)) = some (some (.bool false), 1, 1) := by kernel_rfl
theorem Trym.infoStr : (Trym.prog.info? 9).map (fun i => (i.zero, i.size, i.bytes)) = some (some (.string ByteArray.empty), 1, 16) := by kernel_rfl
theorem Trym.infoInt : (Trym.prog.info? 3).map (fun i => (i.zero, i.size, i.bytes)) = some (some (.int .i64 0), 1, 8) := by kernel_rfl

/-! ### the great array of counts -/
/-- The zero value of [3][2048]int. -/
def nextZero : List Nat := List.replicate 6144 0
set_option maxRecDepth 1000000 in
theorem Trym.infoNext : (Trym.prog.info? 58).map (fun i => (i.zero, i.size)) = some (some (.agg (List.replicate 6144 (Value.int .i64 0)).toArray), 6144) := by kernel_rfl
theorem Trym.infoCirc : (Trym.prog.info? 48).map (fun i => i.size) = some 6 := by kernel_rfl
theorem Trym.infoRow : (Trym.prog.info? 57).map (fun i => i.size) = some 2048 := by kernel_rfl

theorem wpList_alloc_next {w : World} {ops : Array Oper} {rest : List Oper} {o : Oper} {a : Act} {Q : Exit → Act → World → Prop}
    (hg : o.guard = none) (hop : o.op = Op.alloc 58)
    (h : wpList Trym.prog ops Q rest (a.put o.dst (.pointer (some ⟨w.heap.size, 0, none⟩))) (w.alloc (.cells (ints .i64 nextZero).toArray 58))) :
    wpList Trym.prog ops Q (o :: rest) a w := by
  refine wpList_plain hg fun K hK => ?_
  have hz := (zero_of_info Trym.infoNext).1
  have e : (ints .i64 nextZero).toArray = (List.replicate 6144 (Value.int .i64 0)).toArray := by rw [ints, nextZero, List.map_replicate]; rfl
  rw [e] at h
  unfold Oper.wp
  simp only [execOp, hop, Instr.alloc, Sem.run_bind, hz, Result.andThen_ok, newVar, newRow, Value.cells]
  exact hK _ _ h

/-! ### a region that draws its order: reads first, then writes -/
theorem wp_region_tail {P : Program} {id : Nat} {Q : Exit → Act → World → Prop} {a : Act} {w : World} {l : List Oper} (n : Nat) (hm : P.follows .mixedOrders = true) (hB : Region.lexTailB .any l.toArray n = true)
    (h : wpStill P l.toArray w.drew (fun a' => wpList P l.toArray Q (l.drop n) a' w.drew) (l.take n) a) : (Code.region id l.toArray true).wp P Q a w :=
  wp_region_still_tail n hm hB h
theorem Trym.mixed : Trym.prog.follows .mixedOrders = true := by kernel_rfl

/-! ### the loops of a body, in the text's order -/
def loops : Code → List Code
  | .loop c => c :: loops c
  | .seq a b => loops a ++ loops b
  | .block _ c => loops c
  | .scope c => loops c
  | .cond _ a b => loops a ++ loops b
  | _ => []

end Go.Proofs.Qxb6000070aMods
