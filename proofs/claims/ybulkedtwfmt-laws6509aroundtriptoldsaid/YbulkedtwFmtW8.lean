import Derived.Test.YbulkedtwFmtW7
namespace Go.Proofs.YbulkedtwFmt
open Go Go.RowKit
attribute [local go_sem ↓] Go.wp_at_zero Go.wp_at_succ

theorem law_big (ao so : Option Addr) (R rc S sc : Nat) (w : World) (h : 16384 < R) (hR : R ≤ 140737488355328) :
    Calls Ybaf.prog 4 #[.slice ao R rc, .slice so S sc] w fun e w' => e = .returned (.bool true) ∧ Below w.heap.size w w' := by
  go_enter Ybaf.func4, Ybaf.ntmps4
  go_wp2
  go_ret
  exact ⟨rfl, Below.refl _ _⟩

def tot (PA QA : Nat → ByteArray) : Nat → Nat
  | 0 => 0
  | k + 1 => tot PA QA k + ((PA k).size + (QA k).size)

/-- What the first loop has seen. -/
structure Seen (PA QA : Nat → ByteArray) (k : Nat) : Prop where
  le : tot PA QA k ≤ 1048576
  each : ∀ i, i < k → (PA i).size ≤ 1048576 ∧ (QA i).size ≤ 1048576

theorem MsAt.heap {w W : World} {B : Nat} {v : Value} {M : List Mem} (h : MsAt w B v M) (e : W.heap = w.heap) : MsAt W B v M := by
  refine ⟨?_, fun m hm => (h.info m hm).heap e⟩
  have h' := h.own
  unfold World.ownsRow at h' ⊢
  rw [e]
  exact h'

theorem want_form {W : World} {B n : Nat} {v : Value} {xs : List Value} (h : W.ownsRow B 39 3 v n xs) : (v = .slice none 0 0 ∧ n = 0) ∨ ∃ g cap, v = .slice (some ⟨g, 0, none⟩) n cap ∧ g < W.heap.size := by
  rcases h.2 with ⟨e, h0⟩ | ⟨g, cap, cur, e, hB, hg, h1, h2, _⟩
  · exact Or.inl ⟨e, h0⟩
  · exact Or.inr ⟨g, cap, e, lt_of_block hg⟩

theorem want_read {W : World} {B n cap g : Nat} {M : List Mem} (h : W.ownsRow B 39 3 (.slice (some ⟨g, 0, none⟩) n cap) (repN M) (repCells M)) {j : Nat} {a : Int} {s t : ByteArray} (h1 : (repCells M)[j * 3]? = some (.int .i64 a)) (h2 : (repCells M)[j * 3 + 1]? = some (.string s)) (h3 : (repCells M)[j * 3 + 2]? = some (.string t)) :
    W.cell? ⟨g, j * 3, none⟩ = some (.int .i64 a) ∧ W.cell? ⟨g, j * 3 + 1, none⟩ = some (.string s) ∧ W.cell? ⟨g, j * 3 + 2, none⟩ = some (.string t) := by
  have c1 := h.cells (g := g) rfl _ _ h1
  have c2 := h.cells (g := g) rfl _ _ h2
  have c3 := h.cells (g := g) rfl _ _ h3
  rw [Go.WideShapes.add_plain, Nat.zero_add] at c1 c2 c3
  exact ⟨c1, c2, c3⟩

/-- The box of r, behind whatever has been laid since. -/
structure RBox (wr W : World) (id : Int) (p q : ByteArray) : Prop where
  bel : Below wr.heap.size wr W
  blk : W.heap[wr.heap.size]? = some (.cells #[.int .i64 id, .string p, .string q] 39 (0, 0))

theorem RBox.c0 {wr W : World} {id : Int} {p q : ByteArray} (h : RBox wr W id p q) : W.cell? ⟨wr.heap.size, 0, none⟩ = some (.int .i64 id) := by rw [cell_of_row _ _ 0 _ _ _ h.blk]; rfl
theorem RBox.c1 {wr W : World} {id : Int} {p q : ByteArray} (h : RBox wr W id p q) : W.cell? ⟨wr.heap.size, 1, none⟩ = some (.string p) := by rw [cell_of_row _ _ 1 _ _ _ h.blk]; rfl
theorem RBox.c2 {wr W : World} {id : Int} {p q : ByteArray} (h : RBox wr W id p q) : W.cell? ⟨wr.heap.size, 2, none⟩ = some (.string q) := by rw [cell_of_row _ _ 2 _ _ _ h.blk]; rfl
theorem RBox.start (wr : World) (id : Int) (p q : ByteArray) : RBox wr (wr.alloc (.cells #[.int .i64 id, .string p, .string q] 39)).drew id p q :=
  ⟨((Below.refl _ _).alloc (Nat.le_refl _) _).drew, heap_alloc_new wr _⟩
theorem RBox.below {wr W W' : World} {id : Int} {p q : ByteArray} (h : RBox wr W id p q) (hb : Below W.heap.size W W') : RBox wr W' id p q :=
  ⟨h.bel.trans (hb.mono h.bel.size), by rw [hb.block _ (lt_of_block h.blk)]; exact h.blk⟩
theorem RBox.grown {wr W W' : World} {id : Int} {p q : ByteArray} {v : Value} {B n : Nat} {xs : List Value} (h : RBox wr W id p q) (hg : W.grownBy W' v.ownBlock) (hv : W.ownsRow B 27 2 v n xs) : W'.heap[wr.heap.size]? = some (.cells #[.int .i64 id, .string p, .string q] 39 (0, 0)) := by
  rw [hg.block _ (lt_of_block h.blk) ?_]
  · exact h.blk
  · intro e
    rcases hv.2 with ⟨rfl, _⟩ | ⟨g, cap, cur, rfl, _, hgg, _⟩
    · cases e
    · simp [Value.ownBlock] at e
      subst e
      rw [h.blk] at hgg
      simp at hgg

set_option maxHeartbeats 2000000 in
set_option maxRecDepth 100000 in
theorem law_any (ao so : Option Addr) (R rc S sc : Nat) (ID : Nat → Int) (PA QA : Nat → ByteArray) (SK : Nat → Bool) (gu : TypeId) (gv : Value) (w : World) (hR : R ≤ 16384) (hS : S ≤ 140737488355328)
    (hrs : 0 < R → ∃ b o, ao = some ⟨b, o, none⟩ ∧ b < w.heap.size ∧ ∀ i, i < R → w.cell? ⟨b, o + i * 3, none⟩ = some (.int .i64 (ID i)) ∧ w.cell? ⟨b, o + i * 3 + 1, none⟩ = some (.string (PA i)) ∧ w.cell? ⟨b, o + i * 3 + 2, none⟩ = some (.string (QA i)))
    (hsz : ∀ i, i < R → (PA i).size ≤ 140737488355328 ∧ (QA i).size ≤ 140737488355328)
    (hsk : 0 < S → ∃ b o, so = some ⟨b, o, none⟩ ∧ b < w.heap.size ∧ ∀ i, i < S → w.cell? ⟨b, o + i, none⟩ = some (.bool (SK i)))
    (hg0 : w.cell? ⟨0, 0, none⟩ = some (.iface gu gv)) :
    Calls Ybaf.prog 4 #[.slice ao R rc, .slice so S sc] w fun e w' => e = .returned (.bool true) ∧ Below w.heap.size w w' := by
  have Hsz := hide hsz
  have Hsk := hide hsk
  clear hsz hsk
  have hR17 : decide ((16384 : Int) < (R : Int)) = false := by simp; omega
  obtain ⟨i27, hi27, hy0, hy1, hy2⟩ := info_parts Ybaf.info27
  obtain ⟨i39, hi39, hx0, hx1, hx2⟩ := info_parts Ybaf.info39
  have Hrs := hide hrs
  go_enter Ybaf.func4, Ybaf.ntmps4
  go_wp2
  go_loopw [5, 20] (fun t i W => ∃ (k n : Nat), i = .int .i64 k ∧ k ≤ R ∧ t = .int .i64 (tot PA QA k) ∧ tot PA QA k ≤ 1048576 ∧ Seen PA QA k ∧ Hid (W = w.drewN n)) (fun _ i _ => R - (intOf i).toNat)
  case atStart => exact ⟨0, 0, rfl, Nat.zero_le _, rfl, by simp [tot], ⟨by simp [tot], fun i hi => by omega⟩, rfl⟩
  case round =>
    obtain ⟨k, nd, rfl, hk, rfl, htl, hseen, HW⟩ := hrel
    have hwc : ∀ b o, wr.cell? ⟨b, o, none⟩ = w.cell? ⟨b, o, none⟩ := fun b o => by rw [HW.out]; rfl
    by_cases hlt : k < R
    · obtain ⟨b, o, rfl, hb, hcs⟩ := hrs (by omega)
      obtain ⟨c0, c1, c2⟩ := hcs k hlt
      obtain ⟨z1, z2⟩ := Hsz.out k hlt
      rw [← hwc] at c0 c1 c2
      clear hcs hrs hwc
      have hka : (k : Int) < (R : Int) := by omega
      have hkb : (0 : Int) ≤ (k : Int) := by omega
      go_wp2
      go_quiet (fail)
      go_wp2
      · go_ret
        refine ⟨rfl, ?_⟩
        rw [HW.out]
        exact below_drewN (below_drewN (Below.refl _ _) _) _
      · have hle : (tot PA QA k : Int) + ((PA k).size + (QA k).size) ≤ 1048576 := by assumption
        have hle' : tot PA QA (k + 1) ≤ 1048576 := by show tot PA QA k + ((PA k).size + (QA k).size) ≤ 1048576; omega
        go_roundw
        case rel =>
          refine ⟨k + 1, nd + nq, by go_num, by omega, by show _ = Value.int .i64 ((tot PA QA k + ((PA k).size + (QA k).size) : Nat) : Int); go_num, hle', ⟨hle', fun i hi => ?_⟩, by rw [HW.out, World.drewN_drewN]; exact rfl⟩
          rcases Nat.lt_or_ge i k with h | h
          · exact hseen.each i h
          · have : i = k := by omega
            subst this
            omega
        case measure => simp [intOf]; omega
    · have hkR : k = R := by omega
      subst hkR
      have hbel : Below w.heap.size w wr := by rw [HW.out]; exact below_drewN (Below.refl _ _) _
      clear hwc HW
      go_wp2
      go_loopw [7, 8, 43] (fun mv wv i W => ∃ (j : Nat) (M : List Mem) (mw ww : Value), mv = mw ∧ wv = ww ∧ i = .int .i64 j ∧ j ≤ k ∧ Hid (M.length = j) ∧ LawAt w W mw ww M M) (fun _ _ i _ => k - (intOf i).toNat)
      case atStart =>
        refine ⟨0, [], _, _, rfl, rfl, rfl, Nat.zero_le _, rfl, hbel, ⟨?_, (fun m hm => by cases hm)⟩, ?_, (fun m hm => by cases hm), (fun m hm => by cases hm), ⟨_, _, _, rfl⟩, ⟨_, _, _, rfl⟩, fun _ => rfl⟩
        · exact World.ownsRow_nil _ _ _ _
        · exact World.ownsRow_nil _ _ _ _
      case round =>
        obtain ⟨j, M, mw, ww, rfl, rfl, rfl, hj, hMj, hLA⟩ := hrel
        clear hbel
        by_cases hlt2 : j < k
        · obtain ⟨b, o, rfl, hb, hcs⟩ := hrs (by omega)
          obtain ⟨c0, c1, c2⟩ := hcs j hlt2
          rw [← bcl hLA.bel _ _ hb] at c0 c1 c2
          obtain ⟨z1, z2⟩ := hseen.each j hlt2
          have hblt : b < wr.heap.size := World.block_lt_of_cell? _ _ c0
          have hka : (j : Int) < (k : Int) := by omega
          have hkb : (0 : Int) ≤ (j : Int) := by omega
          have hMle : M.length ≤ 16384 := by rw [hMj.out]; omega
          have hrl := repN_le M
          have hzr := hLA.bel.size
          obtain ⟨ma, mn, mc, hm⟩ := hLA.fm
          subst hm
          obtain ⟨wa, wn, wc, hw⟩ := hLA.fw
          subst hw
          clear hcs hrs Hrs htl hg0 Hsz
          have hcase : (j < S ∧ SK j = true) ∨ ¬ j < S ∨ (j < S ∧ SK j = false) := by
            by_cases h : j < S
            · cases hs : SK j
              · exact Or.inr (Or.inr ⟨h, rfl⟩)
              · exact Or.inl ⟨h, rfl⟩
            · exact Or.inr (Or.inl h)
          rcases hcase with ⟨hs1, hs2⟩ | hcase
          · obtain ⟨bs, os, rfl, hbs, hsc⟩ := Hsk.out (by omega)
            have sc := hsc j hs1
            rw [hs2, ← bcl hLA.bel _ _ hbs] at sc
            have hsa : (j : Int) < (S : Int) := by omega
            clear hsc Hsk
            go_wp2_with (at_builtin; refine wpList_append_lies _ rfl (.tmp 56) (.tmp 63) 24 rfl w.heap.size 27 i27 _ 2 32 Ybaf.underlying24 hi27 hy0 hy1 hy2 rfl (by decide) _ _ _ rfl (hLA.ms.own.alloc _) ⟨wr.heap.size, 0, none⟩ 1 1 [.int .i64 (ID j), .slice none 0 0] rfl rfl ?c1 ?c2 (by decide) ?c3 ?c4 ?c5 (wr.heap.size + 1) ?c6 ?_)
            case c1 => exact World.news_of_block (heap_alloc_new wr _)
            case c2 => intro u hu; simp at hu; rcases hu with rfl | rfl <;> rfl
            case c3 => unfold maxLen; omega
            case c4 => omega
            case c5 => simp; omega
            case c6 => simp
            intro g' cap' W4 hown4 hgrow4 hat hlt4
            have hL4 := ((hLA.below ((Below.refl _ _).alloc (Nat.le_refl _) (.cells #[.int .i64 (ID j), .slice none 0 0] 27))).pushMs (pc := none) hown4 hgrow4 rfl (fun p c h => by cases h) (fun _ => rfl)).skipWant (id := ID j) (v := .slice none 0 0)
            clear hown4 hgrow4 hat
            go_wp2
            go_roundw
            case rel => exact ⟨j + 1, _, _, _, rfl, rfl, by go_num, by omega, (by rw [List.length_append, hMj.out]; rfl), hL4⟩
            case measure => simp [intOf]; omega
          · rcases hcase with hs1 | ⟨hs1, hs2⟩
            · have hsa : ¬ (j : Int) < (S : Int) := by omega
              clear Hsk
              go_wp2
              go_region_held (fun w' => w'.cell? ⟨b, o + j * 3, none⟩ = some (.int .i64 (ID j)) ∧ w'.cell? ⟨b, o + j * 3 + 1, none⟩ = some (.string (PA j)) ∧ w'.cell? ⟨b, o + j * 3 + 2, none⟩ = some (.string (QA j))) (go_keep) (fail)
              have hRB := RBox.start wr (ID j) (PA j) (QA j)
              revert hRB
              generalize (wr.alloc (.cells #[.int .i64 (ID j), .string (PA j), .string (QA j)] 39)).drew = Wb
              intro hRB
              have d0 := hRB.c0
              have d1 := hRB.c1
              have d2 := hRB.c2
              go_wp2_with fail
              refine (member_any (ID j) (PA j) (QA j) _ z1 z2).mono ?_
              rintro e W1 ⟨v, rfl, hv, hBm⟩
              have hRB1 := hRB.below hBm
              have hL1 := hLA.below hRB1.bel
              obtain ⟨va, vn, vc, hvf⟩ := row_form hv
              subst hvf
              have e0 := hRB1.c0
              have e1 := hRB1.c1
              have e2 := hRB1.c2
              have c0' := keepS hRB1.bel c0
              have hvi : InfoAt W1 (.slice va vn vc) (Mem.bytes ⟨ID j, some (PA j, QA j), .slice va vn vc⟩) := row_base (Nat.zero_le _) hv
              have hzr1 := hRB1.bel.size
              clear hLA hRB d0 d1 d2 c0 c1 c2 hv hBm
              have hb1 : b < W1.heap.size := World.block_lt_of_cell? _ _ c0'
              have hb2 : wr.heap.size < W1.heap.size := lt_of_block hRB1.blk
              go_wp2_with (at_builtin; refine wpList_append_lies _ rfl (.tmp 89) (.tmp 91) 24 rfl w.heap.size 27 i27 _ 2 32 Ybaf.underlying24 hi27 hy0 hy1 hy2 rfl (by decide) _ _ _ rfl ((hL1.ms.own.alloc _).alloc _) ⟨W1.heap.size + 1, 0, none⟩ 1 1 [.int .i64 (ID j), .slice va vn vc] rfl rfl ?c1 ?c2 (by decide) ?c3 ?c4 ?c5 (W1.heap.size + 1 + 1) ?c6 ?_)
              case c1 => exact World.news_of_block (cs := #[.int .i64 (ID j), .slice va vn vc]) (by have := heap_alloc_new (W1.alloc (.cells #[.int .i64 (ID j), .slice va vn vc] 27)) (.cells #[.int .i64 (ID j), .slice va vn vc] 27); simpa using this)
              case c2 => intro u hu; simp at hu; rcases hu with rfl | rfl <;> rfl
              case c3 => unfold maxLen; omega
              case c4 => omega
              case c5 => simp; omega
              case c6 => simp
              intro g' cap' W4 hown4 hgrow4 hat hlt4
              have hal2 : Below W1.heap.size W1 ((W1.alloc (.cells #[.int .i64 (ID j), .slice va vn vc] 27)).alloc (.cells #[.int .i64 (ID j), .slice va vn vc] 27)) := ((Below.refl _ _).alloc (Nat.le_refl _) _).alloc (by simp) _
              have hL2 := hL1.below hal2
              have hRB2 := hRB1.below hal2
              have hL4 := hL2.pushMs (pc := some (PA j, QA j)) hown4 hgrow4 (hvi.below hal2) (fun p c h => by cases h; exact ⟨z1, z2⟩) (fun h => by cases h)
              have hblk4 := hRB2.grown hgrow4 hL2.ms.own
              have f0 : W4.cell? ⟨wr.heap.size, 0, none⟩ = some (.int .i64 (ID j)) := by rw [cell_of_row _ _ 0 _ _ _ hblk4]; rfl
              have f1 : W4.cell? ⟨wr.heap.size, 1, none⟩ = some (.string (PA j)) := by rw [cell_of_row _ _ 1 _ _ _ hblk4]; rfl
              have f2 : W4.cell? ⟨wr.heap.size, 2, none⟩ = some (.string (QA j)) := by rw [cell_of_row _ _ 2 _ _ _ hblk4]; rfl
              have hzr4 := hL4.bel.size
              clear hown4 hgrow4 hat hal2 hL2 hRB2 hL1 hRB1 hvi hblk4 e0 e1 e2 c0' hb1 hb2
              go_wp2_with (at_builtin; refine wpList_append_lies _ rfl (.tmp 93) (.tmp 95) 29 rfl w.heap.size 39 i39 _ 3 40 Ybaf.underlying29 hi39 hx0 hx1 hx2 rfl (by decide) _ _ _ rfl (hL4.want.alloc _) ⟨W4.heap.size, 0, none⟩ 1 1 [.int .i64 (ID j), .string (PA j), .string (QA j)] rfl rfl ?d1 ?d2 (by decide) ?d3 ?d4 ?d5 (W4.heap.size + 1) ?d6 ?_)
              case d1 => exact World.news_of_block (heap_alloc_new W4 _)
              case d2 => intro u hu; simp at hu; rcases hu with rfl | rfl | rfl <;> rfl
              case d3 => unfold maxLen; omega
              case d4 => omega
              case d5 => simp; omega
              case d6 => simp
              intro g5 cap5 W5 hown5 hgrow5 hat5 hlt5
              have hL5 := (hL4.below ((Below.refl _ _).alloc (Nat.le_refl _) (.cells #[.int .i64 (ID j), .string (PA j), .string (QA j)] 39))).pushWant (v := .slice va vn vc) hown5 hgrow5
              clear hown5 hgrow5 hat5 hL4
              go_wp2
              go_roundw
              case rel => exact ⟨j + 1, _, _, _, rfl, rfl, by go_num, by omega, (by rw [List.length_append, hMj.out]; rfl), hL5⟩
              case measure => simp [intOf]; omega
            · obtain ⟨bs, os, rfl, hbs, hsc⟩ := Hsk.out (by omega)
              have sc := hsc j hs1
              rw [hs2, ← bcl hLA.bel _ _ hbs] at sc
              have hsa : (j : Int) < (S : Int) := by omega
              clear hsc Hsk
              go_wp2
              go_region_held (fun w' => w'.cell? ⟨b, o + j * 3, none⟩ = some (.int .i64 (ID j)) ∧ w'.cell? ⟨b, o + j * 3 + 1, none⟩ = some (.string (PA j)) ∧ w'.cell? ⟨b, o + j * 3 + 2, none⟩ = some (.string (QA j))) (go_keep) (fail)
              have hRB := RBox.start wr (ID j) (PA j) (QA j)
              revert hRB
              generalize (wr.alloc (.cells #[.int .i64 (ID j), .string (PA j), .string (QA j)] 39)).drew = Wb
              intro hRB
              have d0 := hRB.c0
              have d1 := hRB.c1
              have d2 := hRB.c2
              go_wp2_with fail
              refine (member_any (ID j) (PA j) (QA j) _ z1 z2).mono ?_
              rintro e W1 ⟨v, rfl, hv, hBm⟩
              have hRB1 := hRB.below hBm
              have hL1 := hLA.below hRB1.bel
              obtain ⟨va, vn, vc, hvf⟩ := row_form hv
              subst hvf
              have e0 := hRB1.c0
              have e1 := hRB1.c1
              have e2 := hRB1.c2
              have c0' := keepS hRB1.bel c0
              have hvi : InfoAt W1 (.slice va vn vc) (Mem.bytes ⟨ID j, some (PA j, QA j), .slice va vn vc⟩) := row_base (Nat.zero_le _) hv
              have hzr1 := hRB1.bel.size
              clear hLA hRB d0 d1 d2 c0 c1 c2 hv hBm
              have hb1 : b < W1.heap.size := World.block_lt_of_cell? _ _ c0'
              have hb2 : wr.heap.size < W1.heap.size := lt_of_block hRB1.blk
              go_wp2_with (at_builtin; refine wpList_append_lies _ rfl (.tmp 89) (.tmp 91) 24 rfl w.heap.size 27 i27 _ 2 32 Ybaf.underlying24 hi27 hy0 hy1 hy2 rfl (by decide) _ _ _ rfl ((hL1.ms.own.alloc _).alloc _) ⟨W1.heap.size + 1, 0, none⟩ 1 1 [.int .i64 (ID j), .slice va vn vc] rfl rfl ?c1 ?c2 (by decide) ?c3 ?c4 ?c5 (W1.heap.size + 1 + 1) ?c6 ?_)
              case c1 => exact World.news_of_block (cs := #[.int .i64 (ID j), .slice va vn vc]) (by have := heap_alloc_new (W1.alloc (.cells #[.int .i64 (ID j), .slice va vn vc] 27)) (.cells #[.int .i64 (ID j), .slice va vn vc] 27); simpa using this)
              case c2 => intro u hu; simp at hu; rcases hu with rfl | rfl <;> rfl
              case c3 => unfold maxLen; omega
              case c4 => omega
              case c5 => simp; omega
              case c6 => simp
              intro g' cap' W4 hown4 hgrow4 hat hlt4
              have hal2 : Below W1.heap.size W1 ((W1.alloc (.cells #[.int .i64 (ID j), .slice va vn vc] 27)).alloc (.cells #[.int .i64 (ID j), .slice va vn vc] 27)) := ((Below.refl _ _).alloc (Nat.le_refl _) _).alloc (by simp) _
              have hL2 := hL1.below hal2
              have hRB2 := hRB1.below hal2
              have hL4 := hL2.pushMs (pc := some (PA j, QA j)) hown4 hgrow4 (hvi.below hal2) (fun p c h => by cases h; exact ⟨z1, z2⟩) (fun h => by cases h)
              have hblk4 := hRB2.grown hgrow4 hL2.ms.own
              have f0 : W4.cell? ⟨wr.heap.size, 0, none⟩ = some (.int .i64 (ID j)) := by rw [cell_of_row _ _ 0 _ _ _ hblk4]; rfl
              have f1 : W4.cell? ⟨wr.heap.size, 1, none⟩ = some (.string (PA j)) := by rw [cell_of_row _ _ 1 _ _ _ hblk4]; rfl
              have f2 : W4.cell? ⟨wr.heap.size, 2, none⟩ = some (.string (QA j)) := by rw [cell_of_row _ _ 2 _ _ _ hblk4]; rfl
              have hzr4 := hL4.bel.size
              clear hown4 hgrow4 hat hal2 hL2 hRB2 hL1 hRB1 hvi hblk4 e0 e1 e2 c0' hb1 hb2
              go_wp2_with (at_builtin; refine wpList_append_lies _ rfl (.tmp 93) (.tmp 95) 29 rfl w.heap.size 39 i39 _ 3 40 Ybaf.underlying29 hi39 hx0 hx1 hx2 rfl (by decide) _ _ _ rfl (hL4.want.alloc _) ⟨W4.heap.size, 0, none⟩ 1 1 [.int .i64 (ID j), .string (PA j), .string (QA j)] rfl rfl ?d1 ?d2 (by decide) ?d3 ?d4 ?d5 (W4.heap.size + 1) ?d6 ?_)
              case d1 => exact World.news_of_block (heap_alloc_new W4 _)
              case d2 => intro u hu; simp at hu; rcases hu with rfl | rfl | rfl <;> rfl
              case d3 => unfold maxLen; omega
              case d4 => omega
              case d5 => simp; omega
              case d6 => simp
              intro g5 cap5 W5 hown5 hgrow5 hat5 hlt5
              have hL5 := (hL4.below ((Below.refl _ _).alloc (Nat.le_refl _) (.cells #[.int .i64 (ID j), .string (PA j), .string (QA j)] 39))).pushWant (v := .slice va vn vc) hown5 hgrow5
              clear hown5 hgrow5 hat5 hL4
              go_wp2
              go_roundw
              case rel => exact ⟨j + 1, _, _, _, rfl, rfl, by go_num, by omega, (by rw [List.length_append, hMj.out]; rfl), hL5⟩
              case measure => simp [intOf]; omega
        · have hMk : M.length ≤ 16384 := by rw [hMj.out]; omega
          have hq29 := fun (wx : World) (a : Option Addr) (n c : Nat) => run_neq_slice_nil_any (P := Ybaf.prog) wx 29 39 a n c 0 0 Ybaf.underlying29
          have hg1 := fun (W : World) (hb : Below w.heap.size w W) => (bcl hb 0 0 (World.block_lt_of_cell? _ _ hg0)).trans hg0
          have Hg1 := hide hg1
          clear hg1 hg0
          obtain ⟨wa, wc, hww, hwa⟩ : ∃ wa wc, u8 = .slice wa (repN M) wc ∧ (0 < repN M → ∃ g, wa = some ⟨g, 0, none⟩ ∧ g < wr.heap.size) := by
            rcases want_form hLA.want with ⟨h, h0⟩ | ⟨g, cap, h, hl⟩
            · exact ⟨_, _, by rw [h, h0], fun h' => by omega⟩
            · exact ⟨_, _, h, fun _ => ⟨g, rfl, hl⟩⟩
          subst hww
          rcases hLA.ms.form with ⟨hmv, hM0⟩ | ⟨g, cap, hmv, hgB, hgl, _, _⟩
          · subst hmv hM0
            have hMn : repN [] = 0 := rfl
            rw [hMn] at hwa ⊢
            go_wp2_with fail
            refine (clone_nil _).mono ?_
            rintro e W1 ⟨rfl, hW⟩
            rw [hW]
            clear hW
            go_wp2_with fail
            refine (cluster_any _ w.heap.size [] gu gv _ hLA.ms hMk (Hg1.out _ hLA.bel) hLA.sz hLA.nil).mono ?_
            rintro e W2 ⟨rv, rfl, hrv, hrn, hB2⟩
            have hrv0 := hrn hMn
            subst hrv0
            have hfin : Below w.heap.size w W2 := hLA.bel.trans (hB2.mono hLA.bel.size)
            clear hLA hrv hrn hB2
            go_wp2_with fail
            refine (same_nil _).mono ?_
            rintro e W3 ⟨rfl, hW⟩
            rw [hW]
            clear hW
            go_wp2_with fail
            go_ret
            exact ⟨rfl, hfin.alloc hfin.size _⟩
          · subst hmv
            have Hmj : Hid (M.length = j) := hMj
            go_wp2_with fail
            refine (clone_any _ w.heap.size M _ hLA.ms hMk hLA.sz hLA.nil ⟨g, cap, rfl, hgl⟩).mono ?_
            rintro e W1 ⟨gc, ccap, C, rfl, hcl, hkey, hB1⟩
            have hL1 := hLA.below hB1
            have Hkey := hide hkey
            clear hkey
            go_wp2_with fail
            refine (cluster_any _ w.heap.size M gu gv _ hL1.ms hMk (Hg1.out _ hL1.bel) hL1.sz hL1.nil).mono ?_
            rintro e W2 ⟨rv, rfl, hrv, hrn, hB2⟩
            have hL2 := hL1.below hB2
            have hcl2 := hcl.below hB2
            have HL2 := hide hL2
            have Hcl2 := hide hcl2
            have Hrv := hide hrv
            have hfin := hL2.bel
            clear hLA hL1 hcl hB1 hB2 hL2 hcl2
            by_cases hz : repN M = 0
            · have hrv0 := hrn hz
              subst hrv0
              rw [hz]
              clear hrn hrv hwa
              have Hz := hide hz
              clear hz
              go_wp2_with fail
              have hal : Below W2.heap.size W2 (W2.alloc (.cells #[.slice none 0 0] 31)) := (Below.refl _ _).alloc (Nat.le_refl _) _
              refine (same_any g cap gc ccap w.heap.size _ M C _ (HL2.out.ms.below hal) (Hcl2.out.below hal) hMk Hkey.out).mono ?_
              rintro e W3 ⟨rfl, nn, hW⟩
              rw [hW]
              clear hW
              go_wp2_with fail
              go_ret
              exact ⟨rfl, below_drewN (hfin.alloc hfin.size _) _⟩
            · obtain ⟨gw, rfl, hgw⟩ := hwa (by omega)
              obtain ⟨gr, rcap, hrv', hgr⟩ : ∃ g cap, rv = .slice (some ⟨g, 0, none⟩) (repN M) cap ∧ g < W2.heap.size := by
                rcases want_form hrv with ⟨_, h⟩ | h
                · exact absurd h hz
                · exact h
              subst hrv'
              have hcmp : Hid (∀ i, i < repN M → ∃ a s t, (W2.cell? ⟨gr, i * 3, none⟩ = some (.int .i64 a) ∧ W2.cell? ⟨gr, i * 3 + 1, none⟩ = some (.string s) ∧ W2.cell? ⟨gr, i * 3 + 2, none⟩ = some (.string t)) ∧
                  (W2.cell? ⟨gw, i * 3, none⟩ = some (.int .i64 a) ∧ W2.cell? ⟨gw, i * 3 + 1, none⟩ = some (.string s) ∧ W2.cell? ⟨gw, i * 3 + 2, none⟩ = some (.string t))) := by
                intro i hi
                obtain ⟨a, s, t, h1, h2, h3⟩ := repCells_get M i hi
                exact ⟨a, s, t, want_read Hrv.out h1 h2 h3, want_read HL2.out.want h1 h2 h3⟩
              have hrn2 := repN_le M
              clear hrn hrv hwa
              obtain ⟨NR, hNR⟩ : ∃ n, repN M = n := ⟨_, rfl⟩
              rw [hNR] at hz hcmp hrn2 ⊢
              clear hNR Hrv
              have hz1 : ((NR : Int) == 0) = false := by simp; omega
              go_wp2_with fail
              have hal : Below W2.heap.size W2 (W2.alloc (.cells #[.slice (some ⟨gr, 0, none⟩) NR rcap] 31)) := (Below.refl _ _).alloc (Nat.le_refl _) _
              have hbox : (W2.alloc (.cells #[.slice (some ⟨gr, 0, none⟩) NR rcap] 31)).cell? ⟨W2.heap.size, 0, none⟩ = some (.slice (some ⟨gr, 0, none⟩) NR rcap) := cell_of_one (heap_alloc_new W2 _)
              have hfin3 := hfin.alloc hfin.size (.cells #[.slice (some ⟨gr, 0, none⟩) NR rcap] 31)
              revert hal hbox hfin3
              generalize W2.alloc (.cells #[.slice (some ⟨gr, 0, none⟩) NR rcap] 31) = W3
              intro hal hbox hfin3
              have Hal := hide hal
              have Hfin3 := hide hfin3
              clear hal hfin hfin3
              go_loopw [116] (fun i W => ∃ (q n : Nat), i = .int .i64 q ∧ q ≤ NR ∧ Hid (W = W3.drewN n)) (fun i _ => NR - (intOf i).toNat)
              case atStart => exact ⟨0, 0, rfl, Nat.zero_le _, rfl⟩
              case round =>
                obtain ⟨q, nd3, rfl, hq, HW3⟩ := hrel
                by_cases hlt3 : q < NR
                · obtain ⟨a, s, t, ⟨x1, x2, x3⟩, ⟨y1, y2, y3⟩⟩ := hcmp.out q hlt3
                  have hk3 : ∀ (b o : Nat) (x : Value), W2.cell? ⟨b, o, none⟩ = some x → wr.cell? ⟨b, o, none⟩ = some x := fun b o x h => by
                    rw [HW3.out]; exact keepS Hal.out h
                  have x1' := hk3 _ _ _ x1
                  have x2' := hk3 _ _ _ x2
                  have x3' := hk3 _ _ _ x3
                  have y1' := hk3 _ _ _ y1
                  have y2' := hk3 _ _ _ y2
                  have y3' := hk3 _ _ _ y3
                  have hbox' : wr.cell? ⟨W2.heap.size, 0, none⟩ = some (.slice (some ⟨gr, 0, none⟩) NR rcap) := by rw [HW3.out]; exact hbox
                  have hka : (q : Int) < (NR : Int) := by omega
                  have hkb : (0 : Int) ≤ (q : Int) := by omega
                  clear x1 x2 x3 y1 y2 y3 hk3 hbox
                  go_wp2
                  go_quiet (fail)
                  go_wp2
                  go_roundw
                  case rel => exact ⟨q + 1, nd3 + nq, by go_num, by omega, by rw [HW3.out, World.drewN_drewN]; exact rfl⟩
                  case measure => simp [intOf]; omega
                · go_wp2_with fail
                  refine (same_any g cap gc ccap w.heap.size _ M C _ ((HL2.out.ms.below Hal.out).heap (by rw [HW3.out]; rfl)) ((Hcl2.out.below Hal.out).heap (by rw [HW3.out]; rfl)) hMk Hkey.out).mono ?_
                  rintro e W4 ⟨rfl, nn, hW⟩
                  rw [hW]
                  clear hW
                  go_wp2_with fail
                  go_ret
                  refine ⟨rfl, below_drewN ?_ _⟩
                  rw [HW3.out]
                  exact below_drewN Hfin3.out _
end Go.Proofs.YbulkedtwFmt
