import Derived.Test.YbulkedwaF3
import Derived.Test.YbulkedwaPlain
import Derived.Deep.DeepCutAuto
import Derived.Deep.CutBlock
namespace Go.Proofs.Ybulkedwa
open Go Go.RowKit
set_option maxRecDepth 100000

/-- Nothing old has turned but the blocks bb and tb. -/
structure Fr (bb tb : Nat) (w W : World) : Prop where
  os : W.os = w.os
  tape : W.tape = w.tape
  output : W.output = w.output
  size : w.heap.size ≤ W.heap.size
  block : ∀ i, i < w.heap.size → i ≠ bb → i ≠ tb → W.heap[i]? = w.heap[i]?

theorem Fr.refl (bb tb : Nat) (w : World) : Fr bb tb w w := ⟨rfl, rfl, rfl, Nat.le_refl _, fun _ _ _ _ => rfl⟩
theorem Fr.below {bb tb : Nat} {w W W' : World} (h : Fr bb tb w W) (hb : Below W.heap.size W W') : Fr bb tb w W' :=
  ⟨hb.os.trans h.os, hb.tape.trans h.tape, hb.output.trans h.output, Nat.le_trans h.size hb.size, fun i hi h1 h2 => (hb.block i (Nat.lt_of_lt_of_le hi h.size)).trans (h.block i hi h1 h2)⟩
theorem Fr.setCell {bb tb : Nat} {w W : World} (h : Fr bb tb w W) {a : Addr} (ha : a.block = bb ∨ a.block = tb) (v : Value) : Fr bb tb w (W.setCell a v) :=
  ⟨h.os, h.tape, h.output, by simpa using h.size, fun i hi h1 h2 => (heap_setCell_other W a i v (fun e => by rcases ha with e2 | e2 <;> simp_all)).trans (h.block i hi h1 h2)⟩
theorem Fr.cell {bb tb : Nat} {w W : World} (h : Fr bb tb w W) {b o : Nat} {x : Value} (hc : w.cell? ⟨b, o, none⟩ = some x) (h1 : b ≠ bb) (h2 : b ≠ tb) : W.cell? ⟨b, o, none⟩ = some x := by
  have hb : b < w.heap.size := World.block_lt_of_cell? _ _ hc
  have := h.block b hb h1 h2
  simp only [World.cell?] at hc ⊢
  rw [this]
  exact hc

/-- WHAT closeOver FINDS. -/
structure Stat (w : World) (E : Arcs) (n width bb tb pb ob sb vb nB wB cs cv : Nat) (Fl Fo : Int) : Prop where
  ord : ∀ u, u < n → w.cell? ⟨ob, u, none⟩ = some (.int .i64 (u : Nat))
  sta : ∀ u, u ≤ n → w.cell? ⟨sb, u, none⟩ = some (.int .i64 (st E u : Nat))
  val : ∀ u r x, (hds E u)[r]? = some x → w.cell? ⟨vb, st E u + r, none⟩ = some (.int .i64 (x : Nat))
  cn : w.cell? ⟨nB, 0, none⟩ = some (.int .i64 (n : Nat))
  cw : w.cell? ⟨wB, 0, none⟩ = some (.int .i64 (width : Nat))
  p5 : w.cell? ⟨pb, 5, none⟩ = some (.int .i64 (width : Nat))
  p6 : w.cell? ⟨pb, 6, none⟩ = some (.slice (some ⟨bb, 0, none⟩) (n * width) (n * width))
  p29 : w.cell? ⟨pb, 32, none⟩ = some (.pointer (some ⟨tb, 0, none⟩))
  p30 : w.cell? ⟨pb, 33, none⟩ = some (.int .i64 Fl)
  p31 : w.cell? ⟨pb, 34, none⟩ = some (.int .i64 Fo)
  nb : ob ≠ bb ∧ sb ≠ bb ∧ vb ≠ bb ∧ nB ≠ bb ∧ wB ≠ bb ∧ pb ≠ bb
  nt : ob ≠ tb ∧ sb ≠ tb ∧ vb ≠ tb ∧ nB ≠ tb ∧ wB ≠ tb ∧ pb ≠ tb ∧ bb ≠ tb
  down : ∀ e ∈ E, e.2 < e.1
  top : ∀ e ∈ E, e.1 < n
  len : E.length ≤ 65536
  n255 : n ≤ 255
  wid : width = (n + 63) / 64
  cvl : E.length ≤ cv ∧ cv ≤ 1000000

/-- A ROUND's STATE: the rows F, the budget L. -/
structure Co (w W : World) (n width bb tb : Nat) (F : Nat → Nat → Bool) (L : Int) : Prop where
  fr : Fr bb tb w W
  bits : W.ownsRow 0 46 1 (.slice (some ⟨bb, 0, none⟩) (n * width) (n * width)) (n * width) (rowsOf n width F)
  left : W.heap[tb]? = some (.cells #[.int .i64 L] 32)

theorem Co.below {w W W' : World} {n width bb tb : Nat} {F : Nat → Nat → Bool} {L : Int} (h : Co w W n width bb tb F L) (hb : Below W.heap.size W W') : Co w W' n width bb tb F L :=
  ⟨h.fr.below hb, row_below_all hb h.bits, (hb.block tb (Array.getElem?_eq_some_iff.1 h.left).1).trans h.left⟩

theorem Co.spend {w W : World} {n width bb tb : Nat} {F : Nat → Nat → Bool} {L : Int} (h : Co w W n width bb tb F L) (hne : bb ≠ tb) (L' : Int) : Co w (W.setCell ⟨tb, 0, none⟩ (.int .i64 L')) n width bb tb F L' := by
  refine ⟨h.fr.setCell (Or.inr rfl) _, ?_, ?_⟩
  · refine h.bits.kept (row := some tb) ⟨rfl, rfl, rfl, by simp, fun k _ hk => heap_setCell_other W ⟨tb, 0, none⟩ k _ (fun e => hk (by simp [e]))⟩ (Or.inr ?_)
    simp [Value.ownBlock, hne]
  · rw [heap_setCell_same W tb 0 _ _ _ h.left]
    rfl

theorem Co.leftCell {w W : World} {n width bb tb : Nat} {F : Nat → Nat → Bool} {L : Int} (h : Co w W n width bb tb F L) : W.cell? ⟨tb, 0, none⟩ = some (.int .i64 L) ∧ W.frozen? ⟨tb, 0, none⟩ = false := by
  constructor
  · simp [World.cell?, h.left]
  · simp [World.frozen?, h.left]

theorem Co.wordAt {w W : World} {n width bb tb : Nat} {F : Nat → Nat → Bool} {L : Int} (h : Co w W n width bb tb F L) {u i : Nat} (hu : u < n) (hi : i < width) : W.cell? ⟨bb, (n - 1 - u) * width + i, none⟩ = some (.int .u64 ((word (F u) i : Nat) : Int)) ∧ W.frozen? ⟨bb, (n - 1 - u) * width + i, none⟩ = false := by
  refine ⟨?_, h.bits.frozenAt _⟩
  rw [h.bits.cellAt _ (by have := row_ix hu hi; omega), rowsOf_at F hu hi]

theorem Co.set {w W : World} {n width bb tb : Nat} {F : Nat → Nat → Bool} {L : Int} (h : Co w W n width bb tb F L) (hne : bb ≠ tb) {u i : Nat} (hu : u < n) (hi : i < width) (G : Nat → Bool) :
    Co w (W.setCell ⟨bb, (n - 1 - u) * width + i, none⟩ (.int .u64 ((word G i : Nat) : Int))) n width bb tb (fun u' y => if u' = u ∧ y / 64 = i then G y else F u' y) L := by
  obtain ⟨h1, h2⟩ := h.bits.stored ((n - 1 - u) * width + i) (.int .u64 ((word G i : Nat) : Int))
  rw [rowsOf_set F G hu hi] at h1
  exact ⟨h.fr.setCell (Or.inl rfl) _, h1, (h2.block tb (Array.getElem?_eq_some_iff.1 h.left).1 (fun e => by cases e; exact hne rfl)).trans h.left⟩

theorem Co.congr {w W : World} {n width bb tb : Nat} {F G : Nat → Nat → Bool} {L : Int} (h : Co w W n width bb tb F L) (hF : ∀ u y, u < n → F u y = G u y) : Co w W n width bb tb G L :=
  ⟨h.fr, by rw [← rowsOf_congr hF]; exact h.bits, h.left⟩
end Go.Proofs.Ybulkedwa
