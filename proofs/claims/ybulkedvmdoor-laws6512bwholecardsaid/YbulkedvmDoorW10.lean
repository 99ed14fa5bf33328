import Derived.Test.YbulkedvmDoorW9
namespace Go.Proofs.YbulkedvmDoor
open Go Go.RowKit Go.Lib Go.Maps Go.Sort
set_option maxRecDepth 100000

theorem Ybad.info32 : (Ybad.prog.info? 32).map (fun i => (i.zero, i.size, i.bytes)) = some (some (.agg (Array.replicate 16 (.int .u8 0))), 16, 16) := by kernel_rfl

theorem Key.one (k : Key) : ∀ v ∈ k.cells, v.oneCell' = true := by
  intro v hv
  simp [Key.cells, Lib.byteCells] at hv
  obtain ⟨b, _, rfl⟩ := hv
  rfl
theorem size32 (k : Key) : (Ybad.prog.info? 32).map (·.size) = some k.cells.length := by
  rw [k.cells_length]; kernel_rfl
theorem alloc_setCell (w : World) (C : Array Value) (t : TypeId) (i : Nat) (v : Value) : (w.alloc (.cells C t)).setCell ⟨w.heap.size, i, none⟩ v = w.alloc (.cells (C.setIfInBounds i v) t) := by
  unfold World.alloc World.setCell
  congr 1
  apply Array.ext
  · simp
  · intro j h1 h2
    rw [Array.getElem_modify, Array.getElem_push, Array.getElem_push]
    by_cases hj : w.heap.size = j
    · subst hj
      simp
    · have h3 : j < w.heap.size := by
        rw [Array.size_push] at h2
        omega
      rw [if_neg hj, dif_pos h3, dif_pos h3]
theorem alloc_setCells (w : World) (t : TypeId) : ∀ (vs : List Value) (o : Nat) (C : Array Value), (w.alloc (.cells C t)).setCells w.heap.size o vs = w.alloc (.cells (setMany C o vs) t)
  | [], _, _ => rfl
  | v :: r, o, C => by
    show ((w.alloc (.cells C t)).setCell ⟨w.heap.size, o, none⟩ v).setCells w.heap.size (o + 1) r = _
    rw [alloc_setCell, alloc_setCells w t r (o + 1)]
    rfl
theorem setMany_all (C : Array Value) (vs : List Value) (h : C.size = vs.length) : setMany C 0 vs = vs.toArray := by
  apply ext_get!
  · simp [h]
  · intro t ht
    have ht' : t < vs.length := by simpa [h] using ht
    rw [get_setMany _ _ _ _ (by simpa using ht), if_pos ⟨Nat.zero_le _, by omega⟩]
    simp
/-- A new variable of some cells, stored whole: a block that holds them. -/
theorem box_cells (w : World) (t : TypeId) (C : Array Value) (vs : List Value) (h : C.size = vs.length) : (w.alloc (.cells C t)).setCells w.heap.size 0 vs = w.alloc (.cells vs.toArray t) := by
  rw [alloc_setCells, setMany_all C vs h]
theorem there_new (w : World) (t : TypeId) (C : Array Value) (n : Nat) (h : C.size = n) : (w.alloc (.cells C t)).there w.heap.size 0 n := by
  intro j hj
  rw [Nat.zero_add, World.cell?_alloc_at _ _ _ _ rfl]
  refine ⟨by simp [h, hj], ?_⟩
  have hb := heap_alloc_new w (.cells C t)
  unfold World.frozen?
  rw [hb]
  simp
theorem range_new (w : World) (t : TypeId) (vs : List Value) : (w.alloc (.cells vs.toArray t)).rangeAt w.heap.size 0 vs := by
  intro j v hv
  rw [Nat.zero_add, World.cell?_alloc_at _ _ _ _ rfl]
  simpa using hv

abbrev z16 : Array Value := #[.int .u8 0, .int .u8 0, .int .u8 0, .int .u8 0, .int .u8 0, .int .u8 0, .int .u8 0, .int .u8 0, .int .u8 0, .int .u8 0, .int .u8 0, .int .u8 0, .int .u8 0, .int .u8 0, .int .u8 0, .int .u8 0]

theorem fold_many : ∀ (vs : List Value) (o : Nat) (C : Array Value), List.foldl (fun (cs : Array Value) (y : Value × Nat) => cs.setIfInBounds y.2 y.1) C (vs.zipIdx o) = setMany C o vs
  | [], _, _ => rfl
  | v :: r, o, C => by
    rw [List.zipIdx_cons, List.foldl_cons, fold_many r (o + 1)]
    rfl
theorem fold_key (x : Key) : List.foldl (fun (cs : Array Value) (y : Value × Nat) => cs.setIfInBounds y.2 y.1) z16 (Key.cells x).zipIdx = (Key.cells x).toArray := by
  rw [fold_many, setMany_all _ _ (by rw [Key.cells_length x]; rfl)]

/-- The keys met so far: none twice; just those that the map has and that are no longer to come. -/
structure Coll (D : DataW Unit) (left : Lit → Bool) (ks : List Key) : Prop where
  nd : ks.Nodup
  mem : ∀ k : Key, k ∈ ks ↔ (Maps.has D (lit k) = true ∧ left (lit k) = false)

theorem lit_same (k k' : Key) : (lit k).sameKey (lit k') = decide (k = k') := by
  by_cases h : k = k'
  · subst h; simp [Lit.sameKey]
  · have : k.1 ≠ k'.1 := fun e => h (Subtype.ext e)
    simp [Lit.sameKey, this, h]

theorem Coll.start (D : DataW Unit) : Coll D (Maps.has D) [] := ⟨by simp, fun k => by simp⟩

theorem Coll.step {D : DataW Unit} {left : Lit → Bool} {ks : List Key} (h : Coll D left ks) {k : Key} (hl : left (lit k) = true) (hh : Maps.has D (lit k) = true) : Coll D (fun z => left z && !z.sameKey (lit k)) (ks ++ [k]) := by
  refine ⟨?_, fun x => ?_⟩
  · rw [List.nodup_append]
    refine ⟨h.nd, by simp, ?_⟩
    intro a ha b hb e
    simp at hb
    subst hb e
    have := (h.mem a).1 ha
    rw [hl] at this
    simp at this
  · rw [List.mem_append, h.mem x, lit_same]
    simp
    by_cases e : x = k
    · subst e
      simp [hh]
    · simp [e]

theorem Coll.done {D : DataW Unit} {left : Lit → Bool} {ks : List Key} {L : List KN} (h : Coll D left ks) (R : Reads D L) (hl : ∀ kl, left kl = false) : ks.Perm (L.map (·.1)) := by
  refine (List.perm_ext_iff_of_nodup h.nd R.nd).2 fun k => ?_
  rw [h.mem k, R.has k.1]
  constructor
  · rintro ⟨⟨p, hp, e⟩, _⟩
    exact List.mem_map.2 ⟨p, hp, Subtype.ext e⟩
  · intro hm
    obtain ⟨p, hp, e⟩ := List.mem_map.1 hm
    exact ⟨⟨p, hp, by rw [← e]⟩, hl _⟩

set_option maxHeartbeats 1000000 in
theorem members_any (mb N : Nat) (L : List KN) (w : World) (h : MapIs w mb N L) (hN : N ≤ 4096) :
    Calls Ybad.prog 11 #[.map (some mb)] w fun e w' => ∃ g cap, e = .returned (.slice (some ⟨g, 0, none⟩) L.length cap) ∧ w'.ownsRow w.heap.size 32 16 (.slice (some ⟨g, 0, none⟩) L.length cap) L.length (keyCells (sortKeys (L.map (·.1)))) ∧ Below w.heap.size w w' := by
  obtain ⟨i0, hi, hz0, hz1, hz2⟩ := info_parts Ybad.info32
  obtain ⟨n, D, hnN, hown, hR⟩ := h.ex
  have hbl := hown.lt
  have hsz0 := Reads.size hown hR
  have hle := hown.size_le
  have HSZ := hide hsz0
  clear hsz0
  go_enter Ybad.func11, Ybad.ntmps11
  go_wp2_with (first
    | (at_len; refine wpList_len_own _ rfl _ 25 rfl 32 29 Ybad.underlying25 _ mb n _ rfl hown ?_)
    | (at_make; refine wpList_make_own _ rfl _ _ 49 rfl w.heap.size 32 i0 _ 16 Ybad.underlying49 hi hz0 hz1 _ _ _ (Maps.size D) rfl rfl rfl (by rw [hz2]; omega) (by unfold maxLen; omega) (Nat.le_refl _) ?_; intro w1 hrow1 hg1)
    | (at_range; refine wpList_range_own _ rfl _ 25 rfl 32 29 klaw Ybad.underlying25 _ mb n _ rfl (hown.kept hg1 (by simp)) ?_; intro w0 hrg0 hg0 hs0)
    | go_in)
  go_frame
  go_loopw [3] (fun v wr => ∃ (left : Lit → Bool) (cnt : Nat) (ks : List Key), wr.ranges Ybad.prog 32 (plainElem Ybad.prog 29) mb w1.heap.size n D left cnt ∧ ks.length + cnt ≤ Maps.size D ∧
      wr.ownsRow w.heap.size 32 16 v ks.length (keyCells ks) ∧ v ≠ .slice none 0 0 ∧ Coll D left ks ∧ Below w.heap.size w wr)
    (fun _ wr => wr.rangeLeft mb w1.heap.size)
  case atStart =>
    exact ⟨_, _, [], hrg0, by simp, hrow1.kept hg0 (Or.inr (by simp [Value.ownBlock])), by simp, Coll.start D,
      ((Below.refl _ _).grown hg1 (Nat.le_refl _) (fun j hj => by cases hj)).grown hg0 hg1.size (fun j hj => by cases hj)⟩
  case round =>
    obtain ⟨left, cnt, ks, hrg, hcs, hrow, hnn, hC, hnx⟩ := hrel
    go_wp2_with (first
      | (at_next; refine wpList_next_ranges _ rfl _ rfl 32 klaw (plainElem Ybad.prog 29) (fun x : Key => Value.agg x.cells.toArray) (Value.int .u64) (fun key kl hk => by obtain ⟨x, hx, _⟩ := keyOf_inv hk; exact ⟨x, hx⟩) (fun v y hv => by obtain ⟨c, rfl, _⟩ := plainElem_int_inv Ybad.underlying29 hv; exact ⟨c, rfl⟩) mb w1.heap.size n _ _ _ rfl hrg ?_ ?_)
      | go_in)
    · intro hc0 hl0
      rcases hrow.2 with ⟨hnil, _⟩ | ⟨g, cap, cur, rfl, hbase, hb, h1, h2, h3, h4⟩
      · exact absurd hnil hnn
      have hperm := hC.done hR hl0
      have hlen : ks.length = L.length := by rw [hperm.length_eq, List.length_map]
      have hH : HoldsK Key.cells 16 wr g 0 ks.toArray := holds_of_blockV hb (by rw [flat_keys]; simpa using h4)
      have hgl : g < wr.heap.size := (Array.getElem?_eq_some_iff.1 hb).1
      have hc := sort_any g 0 cap ks.toArray wr hH hgl (by simp; omega)
      rw [show ks.toArray.size = ks.length by simp, show (sortKeys ks.toArray.toList) = sortKeys (L.map (·.1)) from sortKeys_perm (by simpa using hperm)] at hc
      have hown' : ∀ nn os, (sortWorldK Key.cells 16 wr g 0 nn (sortKeys (L.map (·.1))).toArray os).ownsRow w.heap.size 32 16 (.slice (some ⟨g, 0, none⟩) ks.length cap) ks.length (keyCells (sortKeys (L.map (·.1)))) := fun nn os => ownsRow_sortedK (by rw [sortKeys_length, List.length_map, hlen]) hbase hb h1 h2 h3
      have HO := hide hown'
      have HL := hide hlen
      clear hown' hlen h4 hb hH hperm
      go_wp2_with (go_at_call 13; refine hc.mono ?_; rintro e w' ⟨rfl, nn, os, rfl⟩)
      go_ret
      refine ⟨g, cap, by rw [← HL.out]; rfl, by rw [← HL.out]; exact HO.out nn os, hnx.grown (grownBy_sortedV _) hnx.size (fun j hj => by cases hj; exact hbase)⟩
    · intro xl hxl c kl yd yp w2 cnt2 hkey hlk hv hat hrg2 hlt hg2 hs2 hen
      revert hkey hen
      generalize (⟨xl, hxl⟩ : Key) = x
      intro hkey hen
      rw [keyOf_key x] at hkey
      obtain rfl : lit x = kl := by injection hkey
      have hrow2 := hrow.kept hg2 (Or.inr (row_ne_iter hrow hrg).symm)
      have hhas : Maps.has D (lit x) = true := has_true_of_atKey hat
      clear hs2
      have hth := hide (there_new w2 32 z16 (Key.cells x).toArray.size (by simp [Key.cells_length x]))
      have hsi := hide (show (Ybad.prog.info? 32).map (·.size) = some (Key.cells x).toArray.size by simpa using size32 x)
      have hbox := hide (box_cells w2 32 z16 (Key.cells x) (by rw [Key.cells_length x]; rfl))
      have hcl := Key.cells_length x
      have hfold := fold_key x
      have hle2 := hnx.size
      have hle3 := hg2.size
      go_wp2_with (first
        | (refine wpList_store_mid rfl 32 (.tmp 4) (.tmp 13) rfl w2.heap.size 0 (Key.cells x).toArray rfl rfl hth.out hsi.out (all_oneCell_toArray (Key.one x)) ?_; rw [show (w2.alloc (.cells z16 32)).setCells w2.heap.size 0 (Key.cells x).toArray.toList = w2.alloc (.cells (Key.cells x).toArray 32) from hbox.out])
        | (refine wpList_load_mid rfl 32 (.tmp 4) rfl w2.heap.size 0 rfl (Key.cells x) _ (range_new _ _ _) Ybad.underlying32 rfl (size32 x) ?_)
        | (at_builtin; refine wpList_append_own_at _ rfl _ _ 49 rfl w.heap.size 32 i0 _ 16 16 Ybad.underlying49 hi hz0 hz1 hz2 rfl (by decide) _ _ _ rfl ((hrow2.alloc _).alloc _) ⟨w2.heap.size + 1, 0, none⟩ 1 1 (Key.cells x) rfl (by simp [Key.cells_length x]) ?c1 (Key.one x) ?c3 ?c4 ?c5 ?_)
        | go_in)
      case c3 => unfold maxLen; omega
      case c4 => omega
      case c5 => first | omega | (simp; omega)
      intro v' w3 hown' hg3 hnil3 hat3
      have hrg3 := ((hrg2.alloc _).alloc _).kept hg3 (row_ne_low hrow2 hbl) (row_ne_iter ((hrow2.alloc (.cells (Key.cells x).toArray 32)).alloc (.cells (Key.cells x).toArray 32)) ((hrg2.alloc _).alloc _))
      have HN3 := hide hnil3
      clear hat3 hnil3
      go_wp2
      go_roundw
      case rel =>
        refine ⟨_, cnt2, ks ++ [x], hrg3, by simp; omega, ?_, HN3.out, hC.step hlk hhas, ?_⟩
        · rw [keyCells_snoc, List.length_append, List.length_singleton]
          exact hown'
        · exact (((hnx.grown hg2 hnx.size (fun j hj => by cases hj; exact hg1.size)).alloc (by omega) _).alloc (by simp; omega) _).grown hg3 (by simp; omega) (fun j hj => (hrow2.lt j hj).1)
      case measure => rw [hrg3.left_eq, hrg.left_eq]; exact hlt
end Go.Proofs.YbulkedvmDoor
