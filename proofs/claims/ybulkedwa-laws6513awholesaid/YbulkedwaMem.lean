import Derived.WalkKit
import Derived.Maps.AppendAt
import Derived.Lib.VarintMem
import Derived.Deep.DrawnRows
import Derived.BigQuiet
import Derived.Test.YbulkedwaRows
namespace Go.Proofs.Ybulkedwa
open Go Go.RowKit

theorem hide {p : Prop} (h : p) : Hid p := h

theorem bcell {W w1 : World} (hb : Below W.heap.size W w1) : (∀ b o, b < W.heap.size → w1.cell? ⟨b, o, none⟩ = W.cell? ⟨b, o, none⟩) ∧ (∀ b o, b < W.heap.size → w1.frozen? ⟨b, o, none⟩ = W.frozen? ⟨b, o, none⟩) :=
  ⟨fun b o h => hb.cell (p := ⟨b, o, none⟩) h, fun b o h => hb.frozen (p := ⟨b, o, none⟩) h⟩

theorem bcl {B : Nat} {W w1 : World} (hb : Below B W w1) (b o : Nat) (h : b < B) : w1.cell? ⟨b, o, none⟩ = W.cell? ⟨b, o, none⟩ := hb.cell (p := ⟨b, o, none⟩) h
theorem bfr {B : Nat} {W w1 : World} (hb : Below B W w1) (b o : Nat) (h : b < B) : w1.frozen? ⟨b, o, none⟩ = W.frozen? ⟨b, o, none⟩ := hb.frozen (p := ⟨b, o, none⟩) h
theorem cell_al {w : World} {a : Addr} {x : Value} (h : w.cell? a = some x) (o : Obj) : (w.alloc o).cell? a = some x :=
  (((Below.refl w.heap.size w).alloc (Nat.le_refl _) o).cell (World.block_lt_of_cell? _ _ h)).trans h
theorem frozen_al {w : World} {a : Addr} {x : Value} (h : w.cell? a = some x) (hf : w.frozen? a = false) (o : Obj) : (w.alloc o).frozen? a = false :=
  (((Below.refl w.heap.size w).alloc (Nat.le_refl _) o).frozen (World.block_lt_of_cell? _ _ h)).trans hf
theorem row_form {w : World} {v : Value} {B e size n : Nat} {xs : List Value} (h : w.ownsRow B e size v n xs) : ∃ ao k c, v = .slice ao k c := by
  rcases h.2 with ⟨rfl, _⟩ | ⟨g, cap, cur, rfl, _⟩
  · exact ⟨_, _, _, rfl⟩
  · exact ⟨_, _, _, rfl⟩
theorem keepS {W w1 : World} (hb : Below W.heap.size W w1) {a : Addr} {x : Value} (h : W.cell? a = some x) : w1.cell? a = some x :=
  (hb.cell (World.block_lt_of_cell? _ _ h)).trans h

/-- FROM (w, v) TO (w', v'): old blocks but v's own row are as they were; v' lies in v's row or in a new block. -/
structure Onl (w w' : World) (v v' : Value) : Prop where
  grown : w.grownBy w' v.ownBlock
  lies : v'.ownBlock = v.ownBlock ∨ ∃ k, v'.ownBlock = some k ∧ w.heap.size ≤ k

theorem Onl.refl (w : World) (v : Value) : Onl w w v v := ⟨⟨rfl, rfl, rfl, Nat.le_refl _, fun _ _ _ => rfl⟩, Or.inl rfl⟩

theorem Onl.trans {w w1 w2 : World} {v v1 v2 : Value} (h : Onl w w1 v v1) (k : Onl w1 w2 v1 v2) : Onl w w2 v v2 := by
  refine ⟨⟨k.grown.os.trans h.grown.os, k.grown.tape.trans h.grown.tape, k.grown.output.trans h.grown.output, Nat.le_trans h.grown.size k.grown.size, ?_⟩, ?_⟩
  · intro i hi hne
    have h1 := h.grown.block i hi hne
    have hs := h.grown.size
    have h2 : w2.heap[i]? = w1.heap[i]? := by
      apply k.grown.block i (by omega)
      rcases h.lies with e | ⟨g, e, hg⟩
      · rw [e]; exact hne
      · rw [e]
        intro e2
        cases e2
        omega
    rw [h2, h1]
  · rcases k.lies with e | ⟨g, e, hg⟩
    · rw [e]; exact h.lies
    · exact Or.inr ⟨g, e, Nat.le_trans h.grown.size hg⟩

/-- A block laid first. -/
theorem Onl.of_alloc {w w' : World} {v v' : Value} {o : Obj} (h : Onl (w.alloc o) w' v v') : Onl w w' v v' := by
  have hs := h.grown.size
  simp at hs
  refine ⟨⟨h.grown.os, h.grown.tape, h.grown.output, by omega, fun i hi hne => ?_⟩, ?_⟩
  · rw [h.grown.block i (by simp; omega) hne]
    exact Below.heap_alloc _ _ _ hi
  · rcases h.lies with e | ⟨g, e, hg⟩
    · exact Or.inl e
    · exact Or.inr ⟨g, e, by simp at hg; omega⟩

theorem Onl.of_append {w w' : World} {v v' : Value} (hg : w.grownBy w' v.ownBlock) (hat : v'.ownBlock = v.ownBlock ∨ v'.ownBlock = some w.heap.size) : Onl w w' v v' :=
  ⟨hg, by
    rcases hat with e | e
    · exact Or.inl e
    · exact Or.inr ⟨_, e, Nat.le_refl _⟩⟩

theorem Onl.of_append1 {w w' : World} {v v' : Value} {o : Obj} (hg : (w.alloc o).grownBy w' v.ownBlock) (hat : v'.ownBlock = v.ownBlock ∨ v'.ownBlock = some (w.heap.size + 1)) : Onl w w' v v' :=
  Onl.of_alloc (Onl.of_append hg (by simpa using hat))

theorem Onl.below {w w' : World} {v v' : Value} {B : Nat} (h : Onl w w' v v') (hB : B ≤ w.heap.size) (hv : ∀ k, v.ownBlock = some k → B ≤ k) : Below B w w' :=
  (Below.refl B w).grown h.grown hB hv

/-- ANOTHER ROW STAYS. -/
theorem Onl.row {w w' : World} {v v' u : Value} {B e size n : Nat} {xs : List Value} (h : Onl w w' v v') (hu : w.ownsRow B e size u n xs) (hne : u.ownBlock = none ∨ u.ownBlock ≠ v.ownBlock) : w'.ownsRow B e size u n xs :=
  hu.kept h.grown hne

theorem Onl.cell {w w' : World} {v v' : Value} {a : Addr} {x : Value} (h : Onl w w' v v') (hc : w.cell? a = some x) (hne : v.ownBlock ≠ some a.block) : w'.cell? a = some x :=
  h.grown.cell hc (fun e => hne e.symm)

/-- ROWS OF DIFFERENT ELEMENT TYPES LIE IN DIFFERENT BLOCKS. -/
theorem rows_apart {w : World} {v u : Value} {B B' e e' size size' n n' : Nat} {xs xs' : List Value} (h : w.ownsRow B e size v n xs) (k : w.ownsRow B' e' size' u n' xs') (he : e ≠ e') : v.ownBlock = none ∨ v.ownBlock ≠ u.ownBlock := by
  rcases h.2 with ⟨rfl, _⟩ | ⟨g, cap, cur, rfl, _, hg, _⟩
  · left; rfl
  · right
    rcases k.2 with ⟨rfl, _⟩ | ⟨g', cap', cur', rfl, _, hg', _⟩
    · simp [Value.ownBlock]
    · simp only [Value.ownBlock, ne_eq, Option.some.injEq]
      intro e2
      subst e2
      rw [hg] at hg'
      simp at hg'
      exact he hg'.2

/-- A ROW IN A WORLD THAT IS THE SAME BELOW. -/
theorem row_below {w w' : World} {v : Value} {B B' e size n : Nat} {xs : List Value} (hb : Below B' w w') (h : w.ownsRow B e size v n xs) (hv : ∀ k, v.ownBlock = some k → k < B') : w'.ownsRow B e size v n xs := by
  refine ⟨h.1, ?_⟩
  rcases h.2 with hn | ⟨g, cap, cur, rfl, hB, hg, rest⟩
  · exact Or.inl hn
  · refine Or.inr ⟨g, cap, cur, rfl, hB, ?_, rest⟩
    rw [hb.block g (hv g rfl)]
    exact hg

theorem row_below_all {w w' : World} {v : Value} {B e size n : Nat} {xs : List Value} (hb : Below w.heap.size w w') (h : w.ownsRow B e size v n xs) : w'.ownsRow B e size v n xs :=
  row_below hb h fun k hk => (h.lt k hk).2

theorem row_base {w : World} {v : Value} {B B' e size n : Nat} {xs : List Value} (hB : B' ≤ B) (h : w.ownsRow B e size v n xs) : w.ownsRow B' e size v n xs := by
  refine ⟨h.1, ?_⟩
  rcases h.2 with hn | ⟨g, cap, cur, rfl, hg, rest⟩
  · exact Or.inl hn
  · exact Or.inr ⟨g, cap, cur, rfl, by omega, rest⟩


theorem Below.lower {B B' : Nat} {w w' : World} (h : Below B w w') (hB : B' ≤ B) : Below B' w w' := ⟨h.os, h.tape, h.output, h.size, fun i hi => h.block i (by omega)⟩
theorem below_drewN (B : Nat) (w : World) (q : Nat) : Below B w (w.drewN q) := ⟨rfl, rfl, rfl, Nat.le_refl _, fun _ _ => rfl⟩

theorem row_val {w : World} {v : Value} {B e size n : Nat} {xs : List Value} (h : w.ownsRow B e size v n xs) : ∃ ao c, v = .slice ao n c ∧ (0 < n → ∃ g, ao = some ⟨g, 0, none⟩) := by
  rcases h.2 with ⟨rfl, h0⟩ | ⟨g, cap, cur, rfl, _⟩
  · exact ⟨none, 0, by rw [h0], fun h1 => by omega⟩
  · exact ⟨_, _, rfl, fun _ => ⟨g, rfl⟩⟩
theorem newsK (w : World) (t : TypeId) (vs : List Value) (j : Nat) (u : Value) (hj : vs[j]? = some u) : (w.alloc (.cells vs.toArray t)).cell? ((⟨w.heap.size, 0, none⟩ : Addr).add j) = some u := by
  rw [Go.WideShapes.add_plain, Nat.zero_add, World.cell?_alloc_at _ _ _ _ rfl]
  simpa using hj

end Go.Proofs.Ybulkedwa

