import Derived.Test.YbulkedtwFmtW1
import Derived.Laws.IdiomStrings
import Derived.Deep.RegionHeld3
import Derived.Deep.DrawnRows
namespace Go.Proofs.YbulkedtwFmt
open Go Go.RowKit
attribute [local go_sem ↓] Go.wp_at_zero Go.wp_at_succ

/-- What '[]byte(s)' has laid. -/
theorem conv_row (w : World) (s : ByteArray) (cap : Nat) (m : Nat × Nat) : RowAt (w.alloc (.cells (bytesRow s cap) 5 m)) w.heap.size s := by
  refine ⟨fun j hj => ?_⟩
  have hj' : j < s.data.size := by simpa using hj
  have : (w.alloc (.cells (bytesRow s cap) 5 m)).heap[w.heap.size]? = some (.cells (bytesRow s cap) 5 m) := heap_alloc_new w _
  rw [cell_of_row _ w.heap.size j (bytesRow s cap) 5 m this]
  have h1 : j < (s.data.map (fun b => Value.int .u8 b.toNat)).size := by simpa using hj'
  unfold bytesRow
  rw [Array.getElem?_append_left h1]
  simp only [Array.getElem?_map, Array.getElem?_eq_getElem hj', Option.map_some, Array.getElem_toList]

theorem conv_row' (w : World) (s : ByteArray) (cap : Nat) (m : Nat × Nat) (h : Nat) (hh : h = w.heap.size) : RowAt (w.alloc (.cells (bytesRow s cap) 5 m)) h s := by
  subst hh
  exact conv_row w s cap m
theorem rowAt_drew (w : World) (h : Nat) (s : ByteArray) : RowAt w.drew h s = RowAt w h s := propext ⟨fun k => ⟨k.out⟩, fun k => ⟨k.out⟩⟩
theorem ne_low {w : World} {B e size n : Nat} {v : Value} {xs : List Value} {h : Nat} (hown : w.ownsRow B e size v n xs) (hh : h < B) : v.ownBlock ≠ some h := by
  intro e1
  have := hown.lt h e1
  omega
theorem ne_high {w : World} {B e size n : Nat} {v : Value} {xs : List Value} {h : Nat} (hown : w.ownsRow B e size v n xs) (hh : w.heap.size ≤ h) : v.ownBlock ≠ some h := by
  intro e1
  have := hown.lt h e1
  omega

theorem RowAt.drew {w : World} {h : Nat} {s : ByteArray} (k : RowAt w h s) : RowAt w.drew h s := ⟨k.out⟩
theorem RowAt.alloc {w : World} {h : Nat} {s : ByteArray} (k : RowAt w h s) (o : Obj) : RowAt (w.alloc o) h s := by
  refine ⟨fun j hj => ?_⟩
  have := k.out j hj
  exact ((Below.refl w.heap.size w).alloc (Nat.le_refl _) o).cell (World.block_lt_of_cell? _ _ this) |>.trans this
theorem RowAt.below {w w' : World} {h : Nat} {s : ByteArray} (k : RowAt w h s) (hb : Below w.heap.size w w') : RowAt w' h s := by
  refine ⟨fun j hj => ?_⟩
  have := k.out j hj
  exact (hb.cell (World.block_lt_of_cell? _ _ this)).trans this

/-- '[]byte(s)' AS A STEP: one new block that holds the bytes. -/
theorem conv_fn : ∃ (C : World → ByteArray → Nat) (N : World → ByteArray → World), (∀ w s, (convert 9 25 (.string s)).run Ybaf.prog w = .ok (.slice (some ⟨w.heap.size, 0, none⟩) s.size (C w s)) (N w s)) ∧
    (∀ w s h, h = w.heap.size → RowAt (N w s) h s) ∧ (∀ w s, Below w.heap.size w (N w s)) ∧ (∀ w s, (N w s).heap.size = w.heap.size + 1) := by
  refine ⟨fun w s => grownCap w s.size 0 5, fun w s => (w.drew.alloc (.cells (bytesRow s (grownCap w s.size 0 5)) 5 ((bytesRow s (grownCap w s.size 0 5)).size, (bytesRow s (grownCap w s.size 0 5)).size + 1))), ?_, ?_, ?_, ?_⟩
  · exact fun w s => run_bytes_of_string (P := Ybaf.prog) w 9 25 5 s Ybaf.underlying9 Ybaf.underlying25 Ybaf.underlying5
  · intro w s h hh
    exact conv_row' w.drew s _ _ h hh
  · intro w s
    exact ((Below.refl w.heap.size w).drew).alloc (Nat.le_refl _) _
  · intro w s
    simp

theorem ab_first (s : ByteArray) (h c : Nat) (w : World) (hs : s.size ≤ 1048576) (hcell : RowAt w h s) :
    Calls Ybaf.prog 13 #[.slice none 0 0, .slice (some ⟨h, 0, none⟩) s.size c] w fun e w' => ∃ B v', e = .returned v' ∧ B ≤ w.heap.size ∧ w.heap.size ≤ B ∧
      w'.ownsRow B 5 1 v' (encB s.data.toList).length (Lib.byteCells (encB s.data.toList)) ∧ Below B w w' := by
  have e1 : s.data.toList.length = s.size := Array.length_toList
  have := appendBytes_any w.heap.size 0 (.slice none 0 0) [] h c s.data.toList w (World.ownsRow_nil _ _ _ _) (Nat.le_refl _) (by omega) hcell.out (by simp [Value.ownBlock])
  rw [e1] at this
  refine this.mono ?_
  rintro e w' ⟨v', rfl, h1, h2⟩
  refine ⟨_, v', rfl, Nat.le_refl _, Nat.le_refl _, by simpa using h1, h2.below (Nat.le_refl _) (fun k hk => by simp [Value.ownBlock] at hk)⟩

theorem ab_second (B : Nat) (sv : Value) (l1 : List UInt8) (s : ByteArray) (h c : Nat) (w : World) (hs : s.size ≤ 1048576) (hl : l1.length ≤ 1048586) (hown : w.ownsRow B 5 1 sv l1.length (Lib.byteCells l1)) (hB : B ≤ w.heap.size) (hcell : RowAt w h s) (hne : sv.ownBlock ≠ some h) :
    Calls Ybaf.prog 13 #[sv, .slice (some ⟨h, 0, none⟩) s.size c] w fun e w' => ∃ ao k cp, e = .returned (.slice ao k cp) ∧
      w'.ownsRow B 5 1 (.slice ao k cp) (l1 ++ encB s.data.toList).length (Lib.byteCells (l1 ++ encB s.data.toList)) ∧ Below B w w' := by
  have e1 : s.data.toList.length = s.size := Array.length_toList
  have := appendBytes_any B l1.length sv (Lib.byteCells l1) h c s.data.toList w hown hB (by omega) hcell.out hne
  rw [e1] at this
  refine this.mono ?_
  rintro e w' ⟨v', rfl, h1, h2⟩
  obtain ⟨ao, k, cp, rfl⟩ := row_form h1
  refine ⟨ao, k, cp, rfl, ?_, h2.below hB (fun k hk => (hown.lt k hk).1)⟩
  have e2 : Lib.byteCells (l1 ++ encB s.data.toList) = Lib.byteCells l1 ++ Lib.byteCells (encB s.data.toList) := by simp [Lib.byteCells]
  rw [e2, List.length_append]
  exact h1

theorem encB_le (p : ByteArray) (hp : p.size ≤ 1048576) : (encB p.data.toList).length ≤ 1048586 := by
  have e1 : p.data.toList.length = p.size := Array.length_toList
  have := encB_length_le p.data.toList (by omega)
  omega

/-- The two boxes of 'member' (the parameter's, the result's), behind whatever has been laid since. -/
structure Mb (w : World) (id : Int) (p c : ByteArray) (W : World) : Prop where
  c0 : W.cell? ⟨w.heap.size, 0, none⟩ = some (.int .i64 id)
  c1 : W.cell? ⟨w.heap.size, 1, none⟩ = some (.string p)
  c2 : W.cell? ⟨w.heap.size, 2, none⟩ = some (.string c)
  c3 : W.cell? ⟨w.heap.size + 1, 0, none⟩ = some (.int .i64 0)
  c4 : W.cell? ⟨w.heap.size + 1, 1, none⟩ = some (.slice none 0 0)
  f3 : W.frozen? ⟨w.heap.size + 1, 0, none⟩ = false
  f4 : W.frozen? ⟨w.heap.size + 1, 1, none⟩ = false
  sz : w.heap.size + 2 ≤ W.heap.size
  bl : Below w.heap.size w W

theorem Mb.below {w : World} {id : Int} {p c : ByteArray} {W W' : World} {B : Nat} (h : Mb w id p c W) (hb : Below B W W') (hB : w.heap.size + 2 ≤ B) : Mb w id p c W' :=
  ⟨(bcl hb _ _ (by omega)).trans h.c0, (bcl hb _ _ (by omega)).trans h.c1, (bcl hb _ _ (by omega)).trans h.c2, (bcl hb _ _ (by omega)).trans h.c3, (bcl hb _ _ (by omega)).trans h.c4,
   (bfr hb _ _ (by omega)).trans h.f3, (bfr hb _ _ (by omega)).trans h.f4, Nat.le_trans h.sz hb.size, h.bl.trans (hb.mono (by omega))⟩

theorem Mb.start (w : World) (id : Int) (p c : ByteArray) : Mb w id p c ((w.alloc (.cells #[.int .i64 id, .string p, .string c] 39)).alloc (.cells #[.int .i64 0, .slice none 0 0] 27)) :=
  ⟨by go_simp, by go_simp, by go_simp, by go_simp, by go_simp, by go_simp, by go_simp, by simp, ((Below.refl _ _).alloc (Nat.le_refl _) _).alloc (by simp) _⟩

set_option maxHeartbeats 1000000 in
theorem member_any (id : Int) (p c : ByteArray) (w : World) (hp : p.size ≤ 1048576) (hc : c.size ≤ 1048576) :
    Calls Ybaf.prog 8 #[.agg #[.int .i64 id, .string p, .string c]] w fun e w' => ∃ v', e = .returned (.agg #[.int .i64 id, v']) ∧
      w'.ownsRow w.heap.size 5 1 v' (info p.data.toList c.data.toList).length (Lib.byteCells (info p.data.toList c.data.toList)) ∧ Below w.heap.size w w' := by
  obtain ⟨C, N, hcv, hRow, hBel, hNs⟩ := conv_fn
  have HRow : Hid (∀ w s h, h = w.heap.size → RowAt (N w s) h s) := hRow
  have HKeep : Hid (∀ w s h t, RowAt w h t → RowAt (N w s) h t) := fun w s h t k => RowAt.below k (hBel w s)
  have HOwn : Hid (∀ W s B v n xs, World.ownsRow W B 5 1 v n xs → World.ownsRow (N W s) B 5 1 v n xs) := fun W s B v n xs k => row_below_all (hBel W s) k
  have HMb : Hid (∀ W s, Mb w id p c W → Mb w id p c (N W s)) := fun W s k => k.below (hBel W s) k.sz
  clear hRow hBel
  have hM0 := Mb.start w id p c
  go_enter Ybaf.func8, Ybaf.ntmps8
  go_wp2
  refine wp_region_noPanic ?_
  revert hM0
  generalize World.alloc (World.alloc w _) _ = W0
  intro hM0
  have hM0d : Mb w id p c W0.drew := ⟨hM0.1, hM0.2, hM0.3, hM0.4, hM0.5, hM0.6, hM0.7, hM0.8, hM0.9.drew⟩
  clear hM0
  go_region_held (fun w' => w'.cell? ⟨w.heap.size, 0, none⟩ = some (.int .i64 id) ∧ w'.cell? ⟨w.heap.size, 1, none⟩ = some (.string p) ∧ w'.cell? ⟨w.heap.size, 2, none⟩ = some (.string c))
    (first
      | exact ⟨hM0d.c0, hM0d.c1, hM0d.c2⟩
      | (with_reducible exact ⟨(HMb.out _ _ hM0d).c0, (HMb.out _ _ hM0d).c1, (HMb.out _ _ hM0d).c2⟩)
      | (with_reducible exact ⟨(HMb.out _ _ (HMb.out _ _ hM0d)).c0, (HMb.out _ _ (HMb.out _ _ hM0d)).c1, (HMb.out _ _ (HMb.out _ _ hM0d)).c2⟩)
      | (with_reducible exact ⟨hM1.c0, hM1.c1, hM1.c2⟩)
      | (with_reducible exact ⟨(HMb.out _ _ hM1).c0, (HMb.out _ _ hM1).c1, (HMb.out _ _ hM1).c2⟩)
      | (with_reducible exact ⟨hk0, hk1, hk2⟩)
      | go_keep)
    (first
      | (go_at_call_of 13 (Value.slice none 0 0); refine (ab_first p _ _ _ hp ?_).mono ?_; (first | with_reducible exact HRow.out _ _ _ (by first | (simp; done) | (rw [hNs]; simp; done)) | with_reducible exact HKeep.out _ _ _ _ (HRow.out _ _ _ (by first | (simp; done) | (rw [hNs]; simp; done)))); rintro e w1 ⟨B1, v1, rfl, hB1, hB2, hown1, hb1⟩; (first | have hM1 := Mb.below (HMb.out _ _ hM0d) hb1 (Nat.le_trans (Mb.sz (HMb.out _ _ hM0d)) hB2) | have hM1 := Mb.below (HMb.out _ _ (HMb.out _ _ hM0d)) hb1 (Nat.le_trans (Mb.sz (HMb.out _ _ (HMb.out _ _ hM0d))) hB2)); have hR1 : Hid (∀ h s, RowAt _ h s → RowAt w1 h s) := fun h s k => RowAt.below k (hb1.mono hB2); have hz1 := hb1.size; simp only [hNs, World.size_drew] at hz1 hB1 hB2; have hs0 := hM0d.sz; simp only [World.size_drew] at hs0)
      | (go_at_call 13; refine (ab_second B1 v1 (encB p.data.toList) c _ _ _ hc (encB_le p hp) ?_ ?_ ?_ ?_).mono ?_; (first | with_reducible exact hown1 | with_reducible exact HOwn.out _ _ _ _ _ _ hown1); (first | omega | (simp only [hNs]; omega)); (first | with_reducible exact HRow.out _ _ _ (by first | (simp; done) | (rw [hNs]; simp; done)) | with_reducible exact hR1.out _ _ (HRow.out _ _ _ (by first | (simp; done) | (rw [hNs]; simp; done))) | with_reducible exact hR1.out _ _ (HKeep.out _ _ _ _ (HRow.out _ _ _ (by first | (simp; done) | (rw [hNs]; simp; done))))); (first | with_reducible exact ne_high hown1 (Nat.le_refl _) | (refine ne_low hown1 ?_; omega)); rintro e w2 ⟨ao2, k2, cp2, rfl, hown2, hb2⟩; (first | have hM2 := Mb.below hM1 hb2 (by omega) | have hM2 := Mb.below (HMb.out _ _ hM1) hb2 (by omega)); have hk0 := hM2.c0; have hk1 := hM2.c1; have hk2 := hM2.c2; have hk3 := hM2.c3; have hk4 := hM2.c4; have hk5 := hM2.f3; have hk6 := hM2.f4))
  all_goals
    refine NoPanic.normal ?_
    have hz2 := hM2.sz
    go_wp2
    refine bodyPost_ret (v := .agg #[.int .i64 id, .slice ao2 k2 cp2]) (by simp [results, Ybaf.results8, go_sem, hk3, hk4]) rfl ⟨_, rfl, ?_, ?_⟩
    · exact row_base (by omega) (ownsRow_setCell_below (ownsRow_setCell_below hown2 (by show w.heap.size + 1 < B1; omega) _) (by show w.heap.size + 1 < B1; omega) _)
    · exact (hM2.bl.setCell (by show w.heap.size ≤ w.heap.size + 1; omega) _).setCell (by show w.heap.size ≤ w.heap.size + 1; omega) _
end Go.Proofs.YbulkedtwFmt
