import Derived.Test.YbulkedwaL3
namespace Go.Proofs.Ybulkedwa
open Go Go.RowKit
set_option maxRecDepth 100000
set_option linter.unusedSimpArgs false

set_option maxHeartbeats 8000000 in
theorem law_small (n len1 cap1 : Nat) (a1 : Option Addr) (z : Nat → Nat) (lf fl fo : Int) (w : World) (hn : n ≤ 255) (hlen : len1 ≤ 65536)
    (hz : 0 < len1 → ∃ eb eo, a1 = some ⟨eb, eo, none⟩ ∧ eb < w.heap.size ∧ ∀ k, k < len1 → w.cell? ⟨eb, eo + k, none⟩ = some (.int .u16 (z k : Nat)) ∧ z k < 65536)
    (hlf : -2147483648 ≤ lf ∧ lf ≤ 2147483647) (hfl : -2147483648 ≤ fl ∧ fl ≤ 2147483647) (hfo : -9223372036854775808 ≤ fo ∧ fo ≤ 9223372036854775807) :
    Calls Yba.prog 3 #[.int .u8 n, .slice a1 len1 cap1, .int .i32 lf, .int .i32 fl, .int .i64 fo] w fun e w' => e = .returned (.bool true) ∧ Below w.heap.size w w' := by
  have HZ := hide hz
  have HLF := hide hlf
  have HFL := hide hfl
  have HFO := hide hfo
  clear hz hlf hfl hfo
  have hc3 := info3
  obtain ⟨i3, hi3, hz30, hz31, hz32⟩ := info_parts info3
  obtain ⟨i4, hi4, hz40, hz41, hz42⟩ := info_parts info4
  obtain ⟨i46, hi46, hz460, hz461, hz462⟩ := info_parts info46
  have hlenz : (len1 : Int) ≤ 65536 := by omega
  obtain ⟨width, hwid⟩ : ∃ width, (n + 63) / 64 = width := ⟨_, rfl⟩
  have HWD := hide hwid
  have hw4 : width ≤ 4 := by omega
  have hwz : ((n : Int) + 63) / 64 = (width : Int) := by omega
  have hnn : n * n ≤ 65025 := Nat.mul_le_mul hn hn
  clear hwid hc3
  go_enter Yba.func3, Yba.ntmps3
  go_upto_region 5 with fail
  have hn0 : ((w.alloc (.cells #[.int .i64 (n : Nat)] 3)).alloc (.cells #[.int .i64 (width : Nat)] 3)).cell? ⟨w.heap.size, 0, none⟩ = some (.int .i64 (n : Nat)) := by rw [World.cell?_alloc_past _ _ _ (by simp), World.cell?_alloc_at _ _ _ _ rfl]; rfl
  have hw0 : ((w.alloc (.cells #[.int .i64 (n : Nat)] 3)).alloc (.cells #[.int .i64 (width : Nat)] 3)).cell? ⟨w.heap.size + 1, 0, none⟩ = some (.int .i64 (width : Nat)) := by rw [World.cell?_alloc_at _ _ _ _ (by simp)]; rfl
  have hb0 : Below w.heap.size w ((w.alloc (.cells #[.int .i64 (n : Nat)] 3)).alloc (.cells #[.int .i64 (width : Nat)] 3)) := ((Below.refl _ _).alloc (Nat.le_refl _) _).alloc (by simp) _
  revert hn0 hw0 hb0
  generalize (w.alloc (.cells #[.int .i64 (n : Nat)] 3)).alloc (.cells #[.int .i64 (width : Nat)] 3) = W0
  generalize w.heap.size + 1 = wB
  intro hn0 hw0 hb0
  obtain ⟨nB, hnB⟩ : ∃ nB, w.heap.size = nB := ⟨_, rfl⟩
  have HNB := hide hnB
  rw [hnB] at hn0 ⊢
  clear hnB
  have HB0 := hide hb0
  clear hb0
  have hbn : i3.bytes * n ≤ 281474976710656 := by rw [hz32]; omega
  have hbnn : i4.bytes * (n * n) ≤ 281474976710656 := by rw [hz42]; omega
  have hmn : n ≤ maxLen := by unfold maxLen; omega
  have hmnn : n * n ≤ maxLen := by unfold maxLen; omega
  go_upto_block 0 with (first
    | (at_make; refine wpList_make_full _ rfl (.tmp 56) (.tmp 56) 23 rfl W0.heap.size 3 i3 _ 1 Yba.underlying23 hi3 hz30 hz31 _ _ _ _ n rfl rfl rfl rfl hbn hmn (Nat.le_refl _) ?_; intro w1 hown1 hgr1; have hn1 := hgr1.cell hn0 (by simp); have hs1 := hgr1.size)
    | (at_make; refine wpList_make_full _ rfl (.tmp 60) (.tmp 60) 24 rfl W0.heap.size 4 i4 _ 1 Yba.underlying24 hi4 hz40 hz41 _ _ _ _ (n * n) rfl rfl rfl rfl hbnn hmnn hs1 ?_; intro w2 hown2 hgr2)
    | go_in)
  have hLA := LA.start hown1 hgr1 hown2 hgr2
  clear hown1 hgr1 hown2 hgr2 hn1 hs1
  revert hLA
  generalize W0.heap.size = db
  generalize w1.heap.size = jb
  intro hLA
  go_cut [14, 15] (fun tv hv W => ∃ E : Arcs, E.length ≤ 65536 ∧ LA W0 W n db jb tv hv E)
  case first =>
    as_aux_lemma =>
      go_wp2_with fail
      go_loopw [14, 15, 64] (fun tv hv vi W => ∃ (k : Nat) (E : Arcs), vi = .int .i64 k ∧ k ≤ len1 ∧ E.length ≤ k ∧ LA W0 W n db jb tv hv E) (fun _ _ vi _ => len1 - (intOf vi).toNat)
      case atStart => exact ⟨0, [], rfl, Nat.zero_le _, Nat.le_refl _, hLA⟩
      case round =>
        as_aux_lemma =>
          clear hLA
          obtain ⟨k, E, rfl, hk, hEk, hL⟩ := hrel
          have hsz := hL.bel.size
          have hnw := (hL.bel.cell (p := ⟨nB, 0, none⟩) (World.block_lt_of_cell? _ _ hn0)).trans hn0
          by_cases hlt : k < len1
          · obtain ⟨eb, eo, rfl, heb, hze⟩ := HZ.out (by omega)
            have hzc := (HB0.out.cell (p := ⟨eb, eo + k, none⟩) heb).trans (hze k hlt).1
            have hzw := (hL.bel.cell (p := ⟨eb, eo + k, none⟩) (World.block_lt_of_cell? _ _ hzc)).trans hzc
            have hzl := (hze k hlt).2
            clear hze hzc
            by_cases hn00 : n = 0
            · subst hn00
              go_wp2
              go_meet
              exact ⟨E, by omega, hL⟩
            · have hn1 : 0 < n := by omega
              have hnz : ¬ ((n : Int) = 0) := by omega
              have hand := and255 (z k) hzl
              revert hand hzl hzw
              generalize z k = Z
              intro hzw hzl hand
              have hqZ : Z % 256 < 256 := Nat.mod_lt _ (by omega)
              revert hand hqZ
              generalize Z % 256 = Q
              intro hand hqZ
              obtain ⟨a0, ha0⟩ : ∃ a0, Z / 256 % n = a0 := ⟨_, rfl⟩
              obtain ⟨b0, hb0⟩ : ∃ b0, Q % n = b0 := ⟨_, rfl⟩
              have ha0l : a0 < n := by rw [← ha0]; exact Nat.mod_lt _ hn1
              have hb0l : b0 < n := by rw [← hb0]; exact Nat.mod_lt _ hn1
              have haz : (Z : Int) / 256 % (n : Int) = (a0 : Int) := by rw [← ha0]; simp
              have hbz : (Q : Int) % (n : Int) = (b0 : Int) := by rw [← hb0]; simp
              clear ha0 hb0
              by_cases hab : a0 = b0
              · subst hab
                go_wp2
                go_roundw
                case rel => exact ⟨k + 1, E, by go_num, by omega, by omega, hL⟩
                case measure => simp [intOf]; omega
              · have habz : ¬ ((a0 : Int) = (b0 : Int)) := by omega
                go_upto_if 85 with fail
                simp only [haz, hbz]
                clear haz hbz hand
                go_cut [19, 20] (fun va vb W => ∃ a b : Nat, va = .int .i64 a ∧ vb = .int .i64 b ∧ b < a ∧ a < n ∧ wr = W)
                case first =>
                  as_aux_lemma =>
                    by_cases hg : a0 < b0
                    · go_wp2
                      go_meet
                      exact ⟨b0, a0, rfl, rfl, hg, hb0l, rfl⟩
                    · have hgz : ¬ ((a0 : Int) < (b0 : Int)) := by omega
                      go_wp2
                      go_meet
                      exact ⟨a0, b0, rfl, rfl, by omega, ha0l, rfl⟩
                case rest =>
                  obtain ⟨a, b, rfl, rfl, hba, han, rfl⟩ := hcut
                  have hbn' : b < n := by omega
                  have hT := hL.l4.t
                  have hEl : E.length ≤ 65536 := by omega
                  go_upto_region 18 with (first
                    | (at_builtin; refine wpList_append_own_at _ rfl _ (.tmp 90) 23 rfl W0.heap.size 3 i3 (.int .i64 0) 1 8 Yba.underlying23 hi3 hz30 hz31 hz32 rfl (by decide) _ _ _ rfl (hT.alloc _) ⟨wr.heap.size, 0, none⟩ 1 1 [.int .i64 (a : Nat)] rfl rfl (newsK _ _ _) (by simp [Value.oneCell']) ?c3 ?c4 ?c5 ?_)
                    | go_in)
                  case c3 => unfold maxLen; omega
                  case c4 => omega
                  case c5 => simp; omega
                  intro tv2 w2 hown2 hg2 _ hat2
                  have hM1 := (hL.l4.alloc (.cells #[.int .i64 (a : Nat)] 3)).growT hg2 hown2 (by simpa using hat2)
                  have hbl1 : Below W0.heap.size W0 w2 := (hL.bel.alloc hsz _).grown hg2 (by simp; omega) (fun k hk => (hT.lt k hk).1)
                  have hL' : (∀ e ∈ E, e.2 < e.1) ∧ (∀ e ∈ E, e.1 < n) := ⟨hL.dn, hL.tp⟩
                  clear hown2 hg2 hat2 hT hL hsz hnw hzw
                  have hsz2 := hbl1.size
                  have hH := hM1.h
                  go_upto_region 19 with (first
                    | (at_builtin; refine wpList_append_own_at _ rfl _ (.tmp 94) 23 rfl W0.heap.size 3 i3 (.int .i64 0) 1 8 Yba.underlying23 hi3 hz30 hz31 hz32 rfl (by decide) _ _ _ rfl (hH.alloc _) ⟨w2.heap.size, 0, none⟩ 1 1 [.int .i64 (b : Nat)] rfl rfl (newsK _ _ _) (by simp [Value.oneCell']) ?c3 ?c4 ?c5 ?_)
                    | go_in)
                  case c3 => unfold maxLen; omega
                  case c4 => omega
                  case c5 => simp; omega
                  intro hv2 w4 hown4 hg4 _ hat4
                  have hM2 := (hM1.alloc (.cells #[.int .i64 (b : Nat)] 3)).growH hg4 hown4 (by simpa using hat4)
                  have hbl2 : Below W0.heap.size W0 w4 := (hbl1.alloc hsz2 _).grown hg4 (by simp; omega) (fun k hk => (hH.lt k hk).1)
                  clear hown4 hg4 hat4 hH hM1 hbl1 hsz2
                  have hdl := hM2.d.1
                  have hcd := (hM2.d.cellAt a (by omega)).trans (degRow_at E n a han)
                  have hfd := hM2.d.frozenAt a
                  have hdb : W0.heap.size ≤ db := (hM2.d.lt db rfl).1
                  have hjb : W0.heap.size ≤ jb := (hM2.a.lt jb rfl).1
                  have hM3 := hM2.setD a (.int .i64 ((deg E a : Int) + 1))
                  rw [show ((deg E a : Int) + 1) = ((deg E a + 1 : Nat) : Int) by simp, degRow_snoc E n a b han] at hM3
                  have hbl3 : Below W0.heap.size W0 (w4.setCell ⟨db, a, none⟩ (.int .i64 ((deg E a : Int) + 1))) := hbl2.setCell hdb _
                  have hda := deg_le E a
                  have HM3 := hide hM3
                  have HBL := hide hbl3
                  clear hM2 hM3 hbl2 hbl3 hdl
                  go_upto_region 20 with fail
                  have hM3 := HM3.out
                  have hbl3 := HBL.out
                  rw [show ((deg E a + 1 : Nat) : Int) = (deg E a : Int) + 1 by simp] at hM3
                  revert hM3 hbl3
                  generalize w4.setCell ⟨db, a, none⟩ (.int .i64 ((deg E a : Int) + 1)) = W5
                  intro hM3 hbl3
                  clear HM3 HBL hcd hfd hda
                  have hix := sq_ix han hbn'
                  have hal := hM3.a.1
                  have hca := (hM3.a.cellAt (a * n + b) (by omega)).trans (adjRow_at E han hbn')
                  have hfa := hM3.a.frozenAt (a * n + b)
                  have hM4 := hM3.setA (a * n + b) (.bool true)
                  rw [adjRow_snoc E han hbn'] at hM4
                  have hbl4 : Below W0.heap.size W0 (W5.setCell ⟨jb, a * n + b, none⟩ (.bool true)) := hbl3.setCell hjb _
                  have hnw1 := (hbl3.cell (p := ⟨nB, 0, none⟩) (World.block_lt_of_cell? _ _ hn0)).trans hn0
                  have HM4 := hide hM4
                  have HBL := hide hbl4
                  have HDN := hide hL'.1
                  have HTP := hide hL'.2
                  clear hM3 hM4 hbl3 hbl4 hal
                  go_wp2
                  go_roundw
                  case rel => exact ⟨k + 1, E ++ [(a, b)], by go_num, by omega, by simp; omega, LA.snoc HBL.out HM4.out HDN.out HTP.out hba han⟩
                  case measure => simp [intOf]; omega
          · go_wp2
            go_meet
            exact ⟨E, by omega, hL⟩
  case rest =>
  obtain ⟨E, hE, hLA'⟩ := hcut
  clear hLA
  obtain ⟨m, hm⟩ : ∃ m, E.length = m := ⟨_, rfl⟩
  have HM := hide hm
  have hm2 : m ≤ 65536 := by omega
  clear hm hE
  have HLA := hide hLA'
  have hnwc := (hLA'.bel.cell (p := ⟨nB, 0, none⟩) (World.block_lt_of_cell? _ _ hn0)).trans hn0
  have hT := hLA'.l4.t
  have hHd := hLA'.l4.h
  rw [HM.out] at hT hHd
  obtain ⟨at2, ct, rfl, hat2⟩ := row_val hT
  obtain ⟨ah2, ch, rfl, hah2⟩ := row_val hHd
  have HAT := hide hat2
  have HAH := hide hah2
  clear hT hHd hat2 hah2 hLA' hbnn hmnn
  obtain ⟨n1, hn1⟩ : ∃ n1, n + 1 = n1 := ⟨_, rfl⟩
  have HN1 := hide hn1
  have hbn1 : i3.bytes * n1 ≤ 281474976710656 := by rw [hz32]; omega
  have hmn1 : n1 ≤ maxLen := by unfold maxLen; omega
  have hcn1 : (n : Int) + 1 = (n1 : Int) := by omega
  have hn1n : n < n1 := by omega
  clear hn1
  go_upto_block 2 with (first
    | (at_make; refine wpList_make_full _ rfl (.tmp 111) (.tmp 111) 23 rfl wc.heap.size 3 i3 _ 1 Yba.underlying23 hi3 hz30 hz31 _ _ _ _ n1 rfl rfl rfl rfl hbn1 hmn1 (Nat.le_refl _) ?_; intro w1 hown1 hgr1)
    | go_in)
  rw [made_toList _ rfl, ← stRow_zero E] at hown1
  have hbl1 : Below wc.heap.size wc w1 := (Below.refl _ _).grown hgr1 (Nat.le_refl _) (fun k hk => by cases hk)
  have HO1 := hide hown1
  have HBL1 := hide hbl1
  clear hown1 hgr1 hbl1
  obtain ⟨sb, hsb⟩ : ∃ sb, wc.heap.size = sb := ⟨_, rfl⟩
  have HSB := hide hsb
  rw [hsb]
  clear hsb
  go_cut [22] (fun _ W => LA W0 W n db jb (.slice at2 m ct) (.slice ah2 m ch) E ∧ W.ownsRow W0.heap.size 3 1 (.slice (some ⟨sb, 0, none⟩) n1 n1) n1 (stRow E n1 n) ∧ db < sb)
  case first =>
    as_aux_lemma =>
      go_wp2_with fail
      go_loopw [22] (fun vi W => ∃ u : Nat, vi = .int .i64 u ∧ u ≤ n ∧ Below wc.heap.size wc W ∧ W.ownsRow wc.heap.size 3 1 (.slice (some ⟨sb, 0, none⟩) n1 n1) n1 (stRow E n1 u)) (fun vi _ => n - (intOf vi).toNat)
      case atStart => exact ⟨0, rfl, Nat.zero_le _, HBL1.out, by rw [← HSB.out]; exact HO1.out⟩
      case round =>
        as_aux_lemma =>
          clear HO1 HBL1
          obtain ⟨u, rfl, hu, hbl, hown⟩ := hrel
          have hnw := (hbl.cell (p := ⟨nB, 0, none⟩) (World.block_lt_of_cell? _ _ hnwc)).trans hnwc
          have hLA := HLA.out.below hbl
          by_cases hlt : u < n
          · have hdl := hLA.l4.d.1
            have hcd := (hLA.l4.d.cellAt u (by omega)).trans (degRow_at E n u hlt)
            have hsl := hown.1
            have hN1 := HN1.out
            have hcs := (hown.cellAt u (by omega)).trans (stRow_at E (by omega) (Nat.le_refl u))
            have hcs1 := hown.cellAt (u + 1) (by omega)
            obtain ⟨x1, hx1⟩ : ∃ x1, (stRow E n1 u)[u + 1]? = some x1 := ⟨_, List.getElem?_eq_getElem (by rw [stRow_length]; omega)⟩
            rw [hx1] at hcs1
            have hfs := hown.frozenAt (u + 1)
            have hss := st_succ E u
            have hsz1 : st E (u + 1) ≤ m := by rw [← HM.out, ← st_all E n hLA.tp]; exact st_mono E hlt
            have hz1 : (0 : Int) ≤ (u : Int) + 1 := by omega
            have hz2 : (u : Int) + 1 < (n1 : Int) := by omega
            obtain ⟨g1, g2⟩ := hown.stored (u + 1) (.int .i64 ((st E u : Int) + (deg E u : Int)))
            have hbl2 := hbl.grown g2 hbl.size (fun k hk => by cases hk; exact (hown.lt sb rfl).1)
            have e1 : ((st E u : Int) + (deg E u : Int)) = ((st E (u + 1) : Nat) : Int) := by rw [hss]; simp
            rw [show (stRow E n1 u).set (u + 1) (.int .i64 ((st E u : Int) + (deg E u : Int))) = stRow E n1 (u + 1) by rw [e1]; exact stRow_set E n1 u (by omega)] at g1
            have HG1 := hide g1
            have HBL2 := hide hbl2
            have hdu : deg E u ≤ 65536 := by omega
            have hsu : st E u ≤ 65536 := by omega
            clear g1 g2 hbl2 e1 hss hx1 hown hLA hbl hdl hsl hN1 hsz1
            go_wp2
            go_region
            go_wp2
            go_roundw
            case rel => exact ⟨u + 1, by go_num, by omega, HBL2.out.drew, HG1.out⟩
            case measure => simp [intOf]; omega
          · go_wp2
            go_meet
            have hun : u = n := by omega
            refine ⟨hLA, ?_, ?_⟩
            · rw [← hun]; exact row_base HLA.out.bel.size hown
            · rw [← HSB.out]; exact (HLA.out.l4.d.lt db rfl).2
  case rest =>
  clear HLA HO1 HBL1 HSB hnwc hbn1 hmn1
  obtain ⟨hLA, hst, hdsb⟩ := hcut
  have hnwc := (hLA.bel.cell (p := ⟨nB, 0, none⟩) (World.block_lt_of_cell? _ _ hn0)).trans hn0
  have HLA := hide hLA
  have HST := hide hst
  clear hLA hst
  have hbm : i3.bytes * m ≤ 281474976710656 := by rw [hz32]; omega
  have hmm : m ≤ maxLen := by unfold maxLen; omega
  have hn1z : ¬ (n1 = 0) := by omega
  go_upto_region 28 with (first
    | (at_make; refine wpList_make_full _ rfl (.tmp 132) (.tmp 132) 23 rfl wc.heap.size 3 i3 _ 1 Yba.underlying23 hi3 hz30 hz31 _ _ _ _ m rfl rfl rfl rfl hbm hmm (Nat.le_refl _) ?_; intro w1 hown1 hgr1)
    | go_in)
  rw [made_toList _ rfl] at hown1
  have hbl1 : Below wc.heap.size wc w1 := (Below.refl _ _).grown hgr1 (Nat.le_refl _) (fun k hk => by cases hk)
  have hnw1 := (hbl1.cell (p := ⟨nB, 0, none⟩) (World.block_lt_of_cell? _ _ hnwc)).trans hnwc
  have hst1 := row_below_all hbl1 HST.out
  have hN1 := HN1.out
  have hc5 := clone_any ⟨sb, 0, none⟩ n n1 ((stRow E n1 n).take n) w1 (by simp [stRow_length]; omega) (fun j v hj => by
      rw [Go.WideShapes.add_plain, Nat.zero_add, hst1.cellAt j (by have := (List.getElem?_eq_some_iff.1 hj).1; simp [stRow_length] at this; omega)]
      rw [List.getElem?_take] at hj
      split at hj
      · exact hj
      · cases hj) (fun v hv => by
      have := List.mem_of_mem_take hv
      obtain ⟨t, _, rfl⟩ := List.mem_map.1 this
      rfl) (by omega)
  have HO1 := hide hown1
  have HBL1 := hide hbl1
  clear hown1 hgr1 hbl1 hst1 hN1
  go_upto_block 4 with (first
    | (go_at_call 5; refine hc5.mono ?_; rintro e w2 ⟨fv, rfl, hown2, hbl2⟩)
    | go_in)
  rw [fillRow_zero E n n1 (by omega)] at hown2
  have hLC : LC wc w2 wc.heap.size fv E n m 0 (List.replicate m 0) := by
    refine ⟨HBL1.out.trans (Below.lower hbl2 HBL1.out.size), ?_, row_base HBL1.out.size hown2, ?_, Fits.zero _ _⟩
    · have := row_below_all hbl2 HO1.out
      simpa [ints] using this
    · intro k h1 h2
      have h3 := (HO1.out.lt k h1).2
      have h4 := (hown2.lt k h2).1
      omega
  have HLC := hide hLC
  clear hown2 hbl2 HO1 HBL1 hc5 hnw1 hLC
  obtain ⟨vb, hvb⟩ : ∃ vb, wc.heap.size = vb := ⟨_, rfl⟩
  have HVB := hide hvb
  rw [hvb]
  clear hvb
  go_cut [25] (fun _ W => LA W0 W n db jb (.slice at2 m ct) (.slice ah2 m ch) E ∧ W.ownsRow W0.heap.size 3 1 (.slice (some ⟨sb, 0, none⟩) n1 n1) n1 (stRow E n1 n) ∧ ∃ V, W.ownsRow W0.heap.size 3 1 (.slice (some ⟨vb, 0, none⟩) m m) m (ints V) ∧ Fits E m V)
  case first =>
    as_aux_lemma =>
      go_wp2_with fail
      go_loopw [25, 140] (fun _ vi W => ∃ (k : Nat) (V : List Nat), vi = .int .i64 k ∧ k ≤ m ∧ LC wc W vb fv E n m k V) (fun _ vi _ => m - (intOf vi).toNat)
      case atStart => exact ⟨0, _, rfl, Nat.zero_le _, by rw [← HVB.out]; exact HLC.out⟩
      case round =>
        as_aux_lemma =>
          clear HLC
          obtain ⟨k, V, rfl, hk, hL⟩ := hrel
          have hLA := HLA.out.below hL.bel
          by_cases hlt : k < m
          · obtain ⟨tg, rfl⟩ := HAT.out (by omega)
            obtain ⟨hg, rfl⟩ := HAH.out (by omega)
            have hkE : k < E.length := by rw [HM.out]; exact hlt
            obtain ⟨e, he⟩ : ∃ e, E[k]? = some e := ⟨_, List.getElem?_eq_getElem hkE⟩
            have hen : e.1 < n := hLA.tp e (List.mem_of_getElem? he)
            obtain ⟨hs1, hs2⟩ := slot_lt he hLA.tp
            rw [HM.out] at hs2
            have hT := hLA.l4.t
            have hH := hLA.l4.h
            rw [HM.out] at hT hH
            have hct := (hT.cellAt k (by omega)).trans (show (ints (E.map (·.1)))[k]? = some (.int .i64 (e.1 : Nat)) by simp [ints, he])
            have hch := (hH.cellAt k (by omega)).trans (show (ints (E.map (·.2)))[k]? = some (.int .i64 (e.2 : Nat)) by simp [ints, he])
            obtain ⟨af, cf, rfl, haf⟩ := row_val hL.fill
            obtain ⟨fg, rfl⟩ := haf (by omega)
            have hcf := (hL.fill.cellAt e.1 (by omega)).trans (fillRow_at E hen)
            have hff := hL.fill.frozenAt e.1
            have hVl : V.length = m := by have := hL.vals.1; rw [ints_length] at this; omega
            have hfit := hL.fits.step he (by omega)
            obtain ⟨P, hP⟩ : ∃ P, st E e.1 + deg (E.take k) e.1 = P := ⟨_, rfl⟩
            rw [hP] at hs1 hcf hfit
            have hPm : P < m := by omega
            have hcv := hL.vals.cellAt P (by omega)
            obtain ⟨x1, hx1⟩ : ∃ x1, (ints V)[P]? = some x1 := ⟨_, List.getElem?_eq_getElem (by rw [ints_length]; omega)⟩
            rw [hx1] at hcv
            have hfv := hL.vals.frozenAt P
            obtain ⟨g1, g2⟩ := hL.vals.stored P (.int .i64 (e.2 : Nat))
            have g3 := hL.fill.kept g2 (by have := hL.ap.symm.kept; simpa [Value.ownBlock] using this)
            have hbl2 := hL.bel.grown g2 hL.bel.size (fun k hk => by cases hk; exact (hL.vals.lt vb rfl).1)
            have hap := hL.ap
            have HG1 := hide g1
            have HG3 := hide g3
            have HBL2 := hide hbl2
            have HE := hide he
            have HFI := hide hfit
            have HPP := hide hP
            obtain ⟨a, ha⟩ : ∃ a, e.1 = a := ⟨_, rfl⟩
            obtain ⟨b, hb⟩ : ∃ b, e.2 = b := ⟨_, rfl⟩
            have HA := hide ha
            have HB := hide hb
            rw [ha] at hcf hff hct hen
            rw [hb] at hch
            clear hP ha hb g1 g2 g3 hbl2 he hfit hL hLA hT hH hkE hx1 haf hs1 hs2 hVl
            go_upto_region 33 with (go_region)
            have q1 : ((wr.setCell ⟨vb, P, none⟩ (.int .i64 (b : Nat))).drew).ownsRow wc.heap.size 3 1 (.slice (some ⟨vb, 0, none⟩) m m) m (ints (V.set P b)) := by
              have := HG1.out
              rw [HB.out] at this
              rw [show ints (V.set P b) = (ints V).set P (.int .i64 (b : Nat)) by simp [ints, List.map_set]]
              exact this
            have q2 : ((wr.setCell ⟨vb, P, none⟩ (.int .i64 (b : Nat))).drew).ownsRow wc.heap.size 3 1 (.slice (some ⟨fg, 0, none⟩) n cf) n (fillRow E n k) := by
              have := HG3.out
              rw [HB.out] at this
              exact this
            have q3 : Below wc.heap.size wc ((wr.setCell ⟨vb, P, none⟩ (.int .i64 (b : Nat))).drew) := by
              have := HBL2.out.drew
              rw [HB.out] at this
              exact this
            clear HG1 HG3 HBL2 hct hch hcf hff hcv hfv
            revert q1 q2 q3
            generalize (wr.setCell ⟨vb, P, none⟩ (.int .i64 (b : Nat))).drew = W5
            intro q1 q2 q3
            have hLA := HLA.out.below q3
            have hT := hLA.l4.t
            rw [HM.out] at hT
            have hct := (hT.cellAt k (by omega)).trans (show (ints (E.map (·.1)))[k]? = some (.int .i64 (a : Nat)) by simp [ints, HE.out, HA.out])
            have hcf := (q2.cellAt a (by omega)).trans (fillRow_at E hen)
            have hff := q2.frozenAt a
            have hPP := HPP.out
            rw [HA.out] at hPP
            rw [hPP] at hcf
            obtain ⟨g1, g2⟩ := q2.stored a (.int .i64 ((P : Int) + 1))
            have g3 := q1.kept g2 (by have := hap.kept; simpa [Value.ownBlock] using this)
            have g4 := q3.grown g2 q3.size (fun k hk => by cases hk; exact (q2.lt fg rfl).1)
            have g5 : (fillRow E n k).set a (.int .i64 ((P : Int) + 1)) = fillRow E n (k + 1) := by
              have := fillRow_set E HE.out (n := n) (by rw [HA.out]; exact hen)
              rw [HA.out, hPP] at this
              rw [← this]
              congr 2
            rw [g5] at g1
            have HN := hide (LC.mk g4 g3 g1 hap (by have := HFI.out; rw [HB.out] at this; exact this))
            clear g1 g2 g3 g4 g5 q1 q2 q3 hLA hT hPP
            go_wp2
            go_roundw
            case rel => exact ⟨k + 1, V.set P b, by go_num, by omega, HN.out⟩
            case measure => simp [intOf]; omega
          · go_wp2
            go_meet
            have hkm : k = m := by omega
            rw [hkm] at hL
            exact ⟨hLA, row_below_all hL.bel HST.out, V, row_base HLA.out.bel.size hL.vals, hL.fits⟩
  case rest =>
  clear HLA HST HLC HVB hnwc hbm hmm hn1z
  obtain ⟨hLA, hst, V, hva, hfits⟩ := hcut
  have hVl : V.length = m := by have := hva.1; rw [ints_length] at this; omega
  go_upto_region 36 with fail
  have hD0 : Below wc.heap.size wc (wc.alloc (.cells #[.slice (some ⟨sb, 0, none⟩) n1 n1, .slice (some ⟨vb, 0, none⟩) m m] 29)) := (Below.refl _ _).alloc (Nat.le_refl _) _
  have hgb := heap_alloc_new wc (.cells #[.slice (some ⟨sb, 0, none⟩) n1 n1, .slice (some ⟨vb, 0, none⟩) m m] 29)
  have hst1 := row_base (Nat.zero_le _) (row_below_all hD0 hst)
  have hva1 := row_base (Nat.zero_le _) (row_below_all hD0 hva)
  have hLA1 := hLA.below hD0
  clear hst hva hLA hD0
  revert hgb hst1 hva1 hLA1
  generalize wc.alloc _ = W1
  generalize wc.heap.size = gb
  intro hgb hst1 hva1 hLA1
  have c5 := clone_any ⟨sb, 0, none⟩ n1 n1 (stRow E n1 n) W1 (stRow_length _ _ _) (row_cells hst1) (stRow_one _ _ _) (by omega)
  have HGB := hide hgb
  have HST1 := hide hst1
  have HVA1 := hide hva1
  have HLA1 := hide hLA1
  clear hgb hst1 hva1 hLA1
  go_upto_region 37 with (go_at_call 5; refine c5.mono ?_; rintro e w2 ⟨scv, rfl, hsc, hb2⟩)
  have hva2 := row_below_all hb2 HVA1.out
  have c5' := clone_any ⟨vb, 0, none⟩ m m (ints V) w2 (by rw [ints_length]; exact hVl) (row_cells hva2) (ints_one _) (by omega)
  have HSC := hide hsc
  have HB2 := hide hb2
  clear hva2 hsc hb2 c5
  go_upto_region 38 with (go_at_call 5; refine c5'.mono ?_; rintro e w3 ⟨vcv, rfl, hvc, hb3⟩)
  have hD : LD W0 w3 n n1 m db jb sb vb gb (.slice at2 m ct) (.slice ah2 m ch) scv vcv E V :=
    ⟨(HLA1.out.below HB2.out).below hb3, row_below_all hb3 (row_below_all HB2.out HST1.out), row_below_all hb3 (row_below_all HB2.out HVA1.out), (hb3.block gb (Nat.lt_of_lt_of_le (Array.getElem?_eq_some_iff.1 HGB.out).1 HB2.out.size)).trans ((HB2.out.block gb (Array.getElem?_eq_some_iff.1 HGB.out).1).trans HGB.out),
      row_base (Nat.zero_le _) (row_below_all hb3 HSC.out), row_base (Nat.zero_le _) hvc, hfits⟩
  clear HLA1 HST1 HVA1 HGB HSC HB2 hvc hb3 c5'
  have HD := hide hD
  have hnw3 := (hD.la.bel.cell (p := ⟨nB, 0, none⟩) (World.block_lt_of_cell? _ _ hn0)).trans hn0
  clear hD
  go_upto_block 6 with (first
    | (at_make; refine wpList_make_full _ rfl (.tmp 173) (.tmp 173) 23 rfl w3.heap.size 3 i3 _ 1 Yba.underlying23 hi3 hz30 hz31 _ _ _ _ n rfl rfl rfl rfl hbn hmn (Nat.le_refl _) ?_; intro w4 hown4 hgr4)
    | go_in)
  rw [made_toList _ rfl, ← upTo_zero] at hown4
  have hbl4 : Below w3.heap.size w3 w4 := (Below.refl _ _).grown hgr4 (Nat.le_refl _) (fun k hk => by cases hk)
  have HO4 := hide hown4
  have HBL4 := hide hbl4
  clear hown4 hgr4 hbl4 hnw3
  obtain ⟨ob, hob⟩ : ∃ ob, w3.heap.size = ob := ⟨_, rfl⟩
  have HOB := hide hob
  rw [hob]
  clear hob
  go_cut [30] (fun _ W => LD W0 W n n1 m db jb sb vb gb (.slice at2 m ct) (.slice ah2 m ch) scv vcv E V ∧ W.ownsRow 0 3 1 (.slice (some ⟨ob, 0, none⟩) n n) n (ints (upTo n n)))
  case first =>
    as_aux_lemma =>
      go_wp2_with fail
      go_loopw [30, 177] (fun _ vi W => ∃ i : Nat, vi = .int .i64 i ∧ i ≤ n ∧ Below w3.heap.size w3 W ∧ W.ownsRow w3.heap.size 3 1 (.slice (some ⟨ob, 0, none⟩) n n) n (ints (upTo n i))) (fun _ vi _ => n - (intOf vi).toNat)
      case atStart => exact ⟨0, rfl, Nat.zero_le _, HBL4.out, by rw [← HOB.out]; exact HO4.out⟩
      case round =>
        as_aux_lemma =>
          clear HBL4 HO4
          obtain ⟨i, rfl, hi, hbl, hown⟩ := hrel
          by_cases hlt : i < n
          · have hc := hown.cellAt i (by have := hown.1; rw [ints_length, upTo_length] at this; omega)
            obtain ⟨x1, hx1⟩ : ∃ x1, (ints (upTo n i))[i]? = some x1 := ⟨_, List.getElem?_eq_getElem (by rw [ints_length, upTo_length]; exact hlt)⟩
            rw [hx1] at hc
            have hf := hown.frozenAt i
            obtain ⟨g1, g2⟩ := hown.stored i (.int .i64 (i : Nat))
            rw [upTo_set] at g1
            have hbl2 := hbl.grown g2 hbl.size (fun k hk => by cases hk; exact (hown.lt ob rfl).1)
            have HG1 := hide g1
            have HBL2 := hide hbl2
            clear g1 g2 hbl2 hown hbl hx1
            go_wp2
            go_roundw
            case rel => exact ⟨i + 1, by go_num, by omega, HBL2.out, HG1.out⟩
            case measure => simp [intOf]; omega
          · go_wp2
            go_meet
            have hin : i = n := by omega
            rw [hin] at hown
            exact ⟨HD.out.below hbl, row_base (Nat.zero_le _) hown⟩
  case rest =>
  clear HD HO4 HBL4 HOB
  obtain ⟨hD, hod⟩ := hcut
  have hlf := HLF.out
  have hfl := HFL.out
  have hlfz : -9223372036854775808 ≤ lf + 4096 ∧ lf + 4096 ≤ 9223372036854775807 := by omega
  have HD := hide hD
  have HOD := hide hod
  clear hD hod
  go_upto_region 45 with fail
  have hbt : Below wc.heap.size wc (wc.alloc (.cells #[.int .i64 (lf + 4096)] 32)) := (Below.refl _ _).alloc (Nat.le_refl _) _
  have htb := heap_alloc_new wc (.cells #[.int .i64 (lf + 4096)] 32)
  have hD1 := HD.out.below hbt
  have hod1 := row_below_all hbt HOD.out
  have hsz1 : (wc.alloc (.cells #[.int .i64 (lf + 4096)] 32)).heap.size = wc.heap.size + 1 := by simp
  have htbW := HD.out.la.bel.size
  revert htb hD1 hod1 hsz1 htbW
  generalize wc.alloc _ = W1
  generalize wc.heap.size = tb
  intro htb hD1 hod1 hsz1 htbW
  clear HD HOD hbt
  have hflw : IntKind.i64.wrap fl = fl := by rw [IntKind.wrap_i64]; omega
  have hnA : W1.drew.cell? ⟨nB, 0, none⟩ = some (.int .i64 (n : Nat)) := (hD1.la.bel.cell (p := ⟨nB, 0, none⟩) (World.block_lt_of_cell? _ _ hn0)).trans hn0
  have hwA : W1.drew.cell? ⟨wB, 0, none⟩ = some (.int .i64 (width : Nat)) := (hD1.la.bel.cell (p := ⟨wB, 0, none⟩) (World.block_lt_of_cell? _ _ hw0)).trans hw0
  obtain ⟨NW, hNW⟩ : ∃ NW, n * width = NW := ⟨_, rfl⟩
  have hNWl : NW ≤ 1020 := by rw [← hNW]; exact Nat.mul_le_mul hn hw4
  have hNWz : (n : Int) * (width : Int) = (NW : Int) := by rw [← hNW]; simp
  have hNWw : IntKind.i64.wrap (NW : Int) = (NW : Int) := by rw [IntKind.wrap_i64]; omega
  obtain ⟨w2, hrun, hown2, hg2⟩ := run_make_full (P := Yba.prog) W1.drew W1.heap.size 34 46 i46 (.int .u64 0) 1 Yba.underlying34 hi46 hz460 hz461 .i64 .i64 NW (by rw [hz462]; omega) (by unfold maxLen; omega) (Nat.le_refl _)
  have hnA2 := hg2.cell hnA (by simp)
  have hwA2 := hg2.cell hwA (by simp)
  rw [made_toList _ rfl, ← hNW, ← rowsOf_zero] at hown2
  have HNW := hide hNW
  have HO2 := hide hown2
  have HG2 := hide hg2
  have HD1 := hide hD1
  have HOD1 := hide hod1
  have HTB := hide htb
  have HSZ1 := hide hsz1
  clear hNW hown2 hg2 hD1 hod1 htb hsz1
  refine wp_region_held_drew (S := fun w' => w'.cell? ⟨nB, 0, none⟩ = some (.int .i64 (n : Nat)) ∧ w'.cell? ⟨wB, 0, none⟩ = some (.int .i64 (width : Nat))) (by kernel_rfl) ⟨hnA, hwA⟩ (fun hHeld => ?_)
  refine wpAnyH_take (i := 0) (v := .int .i64 (n : Nat)) rfl (by kernel_rfl) (by kernel_rfl) (by kernel_rfl) (fun _ _ _ h => h) (Or.inl ⟨by rfl, fun w' hw' => by have hx := hw'.1; have hy := hw'.2; go_simp⟩) hHeld ?_
  simp only [Act.put, List.setIfInBounds_toArray, List.set_cons_zero, List.set_cons_succ]
  refine wpAnyH_take (i := 1) (v := .int .i64 (width : Nat)) rfl (by kernel_rfl) (by kernel_rfl) (by kernel_rfl) (fun _ _ _ h => h) (Or.inl ⟨by rfl, fun w' hw' => by have hx := hw'.1; have hy := hw'.2; go_simp⟩) hHeld ?_
  simp only [Act.put, List.setIfInBounds_toArray, List.set_cons_zero, List.set_cons_succ]
  refine wpAnyH_take (i := 2) (v := .int .i64 (n : Nat)) rfl (by kernel_rfl) (by kernel_rfl) (by kernel_rfl) (fun _ _ _ h => h) (Or.inl ⟨by rfl, fun w' hw' => by have hx := hw'.1; have hy := hw'.2; go_simp⟩) hHeld ?_
  simp only [Act.put, List.setIfInBounds_toArray, List.set_cons_zero, List.set_cons_succ]
  refine wpAnyH_take (i := 3) (v := .int .i64 (width : Nat)) rfl (by kernel_rfl) (by kernel_rfl) (by kernel_rfl) (fun _ _ _ h => h) (Or.inl ⟨by rfl, fun w' hw' => by have hx := hw'.1; have hy := hw'.2; go_simp⟩) hHeld ?_
  simp only [Act.put, List.setIfInBounds_toArray, List.set_cons_zero, List.set_cons_succ]
  refine wpAnyH_take (i := 4) (v := .int .i64 (NW : Nat)) rfl (by kernel_rfl) (by kernel_rfl) (by kernel_rfl) (fun _ _ _ h => h) (Or.inl ⟨by rfl, fun w' hw' => by have hx := hw'.1; have hy := hw'.2; go_simp⟩) hHeld ?_
  simp only [Act.put, List.setIfInBounds_toArray, List.set_cons_zero, List.set_cons_succ]
  refine wpAnyH_take (i := 6) (v := .pointer (some ⟨tb, 0, none⟩)) rfl (by kernel_rfl) (by kernel_rfl) (by kernel_rfl) (fun _ _ _ h => h) (Or.inl ⟨by rfl, fun w' hw' => by have hx := hw'.1; have hy := hw'.2; go_simp⟩) hHeld ?_
  simp only [Act.put, List.setIfInBounds_toArray, List.set_cons_zero, List.set_cons_succ]
  refine wpAnyH_take (i := 7) (v := .int .i32 fl) rfl (by kernel_rfl) (by kernel_rfl) (by kernel_rfl) (fun _ _ _ h => h) (Or.inl ⟨by rfl, fun w' hw' => by have hx := hw'.1; have hy := hw'.2; go_simp⟩) hHeld ?_
  simp only [Act.put, List.setIfInBounds_toArray, List.set_cons_zero, List.set_cons_succ]
  refine wpAnyH_take (i := 8) (v := .int .i64 fl) rfl (by kernel_rfl) (by kernel_rfl) (by kernel_rfl) (fun _ _ _ h => h) (Or.inl ⟨by rfl, fun w' hw' => by have hx := hw'.1; have hy := hw'.2; go_simp⟩) hHeld ?_
  simp only [Act.put, List.setIfInBounds_toArray, List.set_cons_zero, List.set_cons_succ]
  refine wpAnyH_take (i := 9) (v := .int .i64 fo) rfl (by kernel_rfl) (by kernel_rfl) (by kernel_rfl) (fun _ _ _ h => h) (Or.inl ⟨by rfl, fun w' hw' => by have hx := hw'.1; have hy := hw'.2; go_simp⟩) hHeld ?_
  simp only [Act.put, List.setIfInBounds_toArray, List.set_cons_zero, List.set_cons_succ]
  refine wpAnyH_take (i := 10) (v := .agg #[.pointer (some ⟨tb, 0, none⟩), .int .i64 fl, .int .i64 fo]) rfl (by kernel_rfl) (by kernel_rfl) (by kernel_rfl) (fun _ _ _ h => h) (yieldsIf_build (by rfl) 36 _ rfl _ (by kernel_rfl)) hHeld ?_
  simp only [Act.put, List.setIfInBounds_toArray, List.set_cons_zero, List.set_cons_succ]
  refine wpAnyH_ready (rs := [5]) (by kernel_rfl) (by simp) ?_
  refine AllReadyH.cons rfl (fun K hK => ?_) AllReadyH.nil
  go_simp
  refine hK.out _ _ ⟨hnA2, hwA2⟩ (fun hHeld2 => ?_)
  refine wpAnyH_take (i := 11) (v := .agg (pcA n width tb (.slice (some ⟨W1.heap.size, 0, none⟩) NW NW) fl fo)) rfl (by kernel_rfl) (by kernel_rfl) (by kernel_rfl) (fun _ _ _ h => h) (yieldsIf_build (by rfl) 43 _ rfl _ (by kernel_rfl)) hHeld2 ?_
  simp only [Act.put, List.setIfInBounds_toArray, List.set_cons_zero, List.set_cons_succ]
  refine wpAnyH_ready (rs := [12]) (by kernel_rfl) (by simp) ?_
  refine AllReadyH.cons rfl (fun K2 hK2 => ?_) AllReadyH.nil
  go_simp
  refine hK2.out _ _ ⟨cell_al hnA2 _, cell_al hwA2 _⟩ (fun hHeld3 => ?_)
  refine wpAnyH_take (i := 13) (v := .pointer (some ⟨w2.heap.size, 0, none⟩)) rfl (by kernel_rfl) (by kernel_rfl) (by kernel_rfl) (fun _ _ _ h => h) (Or.inl ⟨by rfl, fun w' _ => by go_simp⟩) hHeld3 ?_
  simp only [Act.put, List.setIfInBounds_toArray, List.set_cons_zero, List.set_cons_succ]
  refine wpAnyH_done (by kernel_rfl) ?_ _
  clear hK hK2 hHeld hHeld2 hHeld3
  have hbw2 : Below W1.heap.size W1 w2 := by
    have := (Below.refl W1.heap.size W1.drew).grown HG2.out (Nat.le_refl _) (fun k hk => by cases hk)
    exact ⟨this.os, this.tape, this.output, this.size, this.block⟩
  have hbw3 : Below W1.heap.size W1 (w2.alloc (.cells (pcA n width tb (.slice (some ⟨W1.heap.size, 0, none⟩) NW NW) fl fo) 43)) := hbw2.alloc hbw2.size _
  have hpc := heap_alloc_new w2 (.cells (pcA n width tb (.slice (some ⟨W1.heap.size, 0, none⟩) NW NW) fl fo) 43)
  have hbi := row_base (Nat.zero_le _) (HO2.out.alloc (.cells (pcA n width tb (.slice (some ⟨W1.heap.size, 0, none⟩) NW NW) fl fo) 43))
  have hD3 := HD1.out.below hbw3
  have hod3 := row_below_all hbw3 HOD1.out
  have htb3 := (hbw3.block tb (by rw [HSZ1.out]; omega)).trans HTB.out
  have hs3 : W0.heap.size ≤ W1.heap.size := by rw [HSZ1.out]; omega
  revert hpc hbi hD3 hod3 htb3 hs3
  rw [show W1.drew.heap.size = W1.heap.size from rfl]
  generalize w2.alloc _ = W3
  generalize w2.heap.size = pb
  generalize W1.heap.size = bb
  intro hpc hbi hD3 hod3 htb3 hs3
  clear HO2 HG2 HD1 HOD1 HTB HSZ1 hnA hwA hnA2 hwA2 hrun hbw2 hbw3
  rw [HNW.out] at hbi
  obtain ⟨C1, hC1⟩ := row_blk hbi
  have hpc' := hpc
  rw [← HNW.out] at hpc'
  have hStat := hD3.stat hod3 hC1 htb3 hpc' hn0 hw0 hs3 htbW HN1.out HM.out hm2 hn HWD.out
  have hCo : Co W3 W3 n width bb tb (fun _ _ => false) (lf + 4096) := ⟨Fr.refl _ _ _, by rw [HNW.out]; exact hbi, htb3⟩
  have hco := closeOver_any W3 E n width bb tb pb ob sb vb nB wB n n1 m (lf + 4096) fl fo hStat hCo (by omega)
  rw [HN1.out, HM.out] at hco
  have harc := hD3.arc
  have ha0 : W3.cell? ⟨gb, 0, none⟩ = some (.slice (some ⟨sb, 0, none⟩) n1 n1) := by simp [World.cell?, harc]
  have ha1 : W3.cell? ⟨gb, 1, none⟩ = some (.slice (some ⟨vb, 0, none⟩) m m) := by simp [World.cell?, harc]
  have HD3 := hide hD3
  have HOD3 := hide hod3
  have HPC := hide hpc
  have HC1 := hide hC1
  have HTB3 := hide htb3
  clear hD3 hod3 hpc hpc' hC1 htb3 hbi hStat hCo harc
  go_upto_region 48 with (first
    | (go_at_call 7; refine hco.mono ?_; rintro e W4 ⟨k, ok, rfl, hkn, hns, hend⟩)
    | go_in)
  obtain ⟨Le, hLF, hcase⟩ : ∃ Le, LF W0 W4 n n1 m width db jb sb vb gb bb tb pb ob k NW (.slice at2 m ct) (.slice ah2 m ch) scv vcv E V Le fl fo ∧ ((ok = true ∧ k = n ∧ Le = bud E width (lf + 4096) n) ∨ (ok = false ∧ k < n ∧ stop E width (lf + 4096) fl fo k ∧ Le = bud E width (lf + 4096) (k + 1))) := by
    rcases hend with ⟨h1, h2, h3⟩ | ⟨h1, h2, h3, h4⟩
    · exact ⟨_, LF.start HD3.out HOD3.out HPC.out HC1.out HTB3.out hs3 htbW HNW.out h3, Or.inl ⟨h1, h2, rfl⟩⟩
    · exact ⟨_, LF.start HD3.out HOD3.out HPC.out HC1.out HTB3.out hs3 htbW HNW.out h4, Or.inr ⟨h1, h2, h3, rfl⟩⟩
  have HLF4 := hide hLF
  have HCS := hide hcase
  have HNS := hide hns
  clear HD3 HOD3 HPC HC1 HTB3 hend hns hcase hLF hco ha0 ha1
  have hnw4 := (HLF4.out.ld.la.bel.cell (p := ⟨nB, 0, none⟩) (World.block_lt_of_cell? _ _ hn0)).trans hn0
  go_upto_block 8 with fail
  go_cut [35, 36, 37] (fun ml vk vo W => ml = .int .i64 Le ∧ vk = .int .i64 (k : Nat) ∧ vo = .bool ok ∧ LF W0 W n n1 m width db jb sb vb gb bb tb pb ob k NW (.slice at2 m ct) (.slice ah2 m ch) scv vcv E V Le fl fo)
  case first =>
    as_aux_lemma =>
      go_wp2_with fail
      go_loopw [35, 36, 37, 38] (fun ml vk vo vu W => ∃ u : Nat, vu = .int .i64 u ∧ u ≤ k ∧ ml = .int .i64 (bud E width (lf + 4096) u) ∧ vk = .int .i64 (n : Nat) ∧ vo = .bool true ∧ LF W0 W n n1 m width db jb sb vb gb bb tb pb ob k NW (.slice at2 m ct) (.slice ah2 m ch) scv vcv E V Le fl fo) (fun _ _ _ vu _ => n - (intOf vu).toNat)
      case atStart =>
        refine ⟨0, rfl, Nat.zero_le _, ?_, rfl, rfl, HLF4.out⟩
        simp [bud, st_zero]
      case round =>
        as_aux_lemma =>
          clear HLF4 hnw4
          obtain ⟨u, rfl, hu, rfl, rfl, rfl, hLF⟩ := hrel
          have hnw := (hLF.ld.la.bel.cell (p := ⟨nB, 0, none⟩) (World.block_lt_of_cell? _ _ hn0)).trans hn0
          have hww := (hLF.ld.la.bel.cell (p := ⟨wB, 0, none⟩) (World.block_lt_of_cell? _ _ hw0)).trans hw0
          by_cases hlt : u < n
          · have hd := hLF.ld.la.l4.d
            have hdl := hd.1
            have hcd := (hd.cellAt u (by omega)).trans (degRow_at E n u hlt)
            have hdg : deg E u ≤ 65536 := by have := deg_le E u; have := HM.out; omega
            have hsm : st E (u + 1) ≤ 65536 := by
              have h1 := st_mono E (u := u + 1) (v := n) hlt
              rw [st_all E n hLF.ld.la.tp, HM.out] at h1
              omega
            have hsm0 : st E u ≤ 65536 := by have := st_succ E u; omega
            have hr0 := bud_range E width n u (lf + 4096) (by omega) hw4 (by omega) hsm0
            have hr1 := bud_range E width n (u + 1) (lf + 4096) (by omega) hw4 (by omega) hsm
            rw [bud_succ] at hr1
            have hwx := spend_wrap (deg E u) width hdg hw4
            have HBS := hide (bud_succ E width (lf + 4096) u)
            obtain ⟨X, hX⟩ : ∃ X, (1 + deg E u) * width = X := ⟨_, rfl⟩
            rw [hX] at hwx hr1
            have HX := hide hX
            clear hX hd hdl hsm hsm0
            obtain ⟨Bu, hBu⟩ : ∃ Bu, bud E width (lf + 4096) u = Bu := ⟨_, rfl⟩
            rw [hBu] at hr0 hr1 ⊢
            have HBU := hide hBu
            clear hBu
            have hsub := spend_wrap2 (deg E u) width X Bu HX.out hdg hw4 hr1
            go_upto_region 55 with (go_quiet (fail))
            rw [hsub]
            have hLFq := hLF.below (below_drewN wr.heap.size wr nq)
            clear hLF hcd hnw hww hwx hsub
            revert hLFq
            generalize wr.drewN nq = W5
            intro hLFq
            obtain ⟨Y, hY⟩ : ∃ Y, Bu - (X : Int) = Y := ⟨_, rfl⟩
            have hYb : bud E width (lf + 4096) (u + 1) = Y := by rw [HBS.out, HBU.out, HX.out, hY]
            rw [hY]
            have HYB := hide hYb
            clear hY hYb hr0 hr1
            by_cases huk : u < k
            · have hnst := HNS.out u huk
              unfold stop at hnst
              rw [HYB.out] at hnst
              have hd1 : decide (Y < fl) = false := decide_eq_false (fun h => hnst (Or.inl h))
              have hd2 : decide (1048576 < fo) = false := decide_eq_false (fun h => hnst (Or.inr h))
              have hd3 : fl ≤ Y := by omega
              have hd4 : fo ≤ 1048576 := by omega
              clear hnst
              go_wp2
              go_roundw
              case rel => exact ⟨u + 1, by go_num, by omega, by rw [HYB.out], rfl, rfl, hLFq⟩
              case measure => simp [intOf]; omega
            · have huk2 : u = k := by omega
              rcases HCS.out with ⟨h1, h2, h3⟩ | ⟨h1, h2, h3, h4⟩
              · omega
              · have HE3 := hide (show Le = Y by rw [h4, ← huk2]; exact HYB.out)
                have HE1 := hide h1
                have HE2 := hide huk2
                unfold stop at h3
                rw [← huk2, HYB.out] at h3
                clear h1 h2 h4 huk2 HCS
                by_cases hyl : Y < fl
                · go_wp2
                  go_meet
                  exact ⟨by rw [HE3.out], by rw [HE2.out], by rw [HE1.out], hLFq⟩
                · have hfo : 1048576 < fo := by omega
                  have hd3 : fl ≤ Y := by omega
                  go_wp2
                  go_meet
                  exact ⟨by rw [HE3.out], by rw [HE2.out], by rw [HE1.out], hLFq⟩
          · go_wp2
            go_meet
            have hun : u = n := by omega
            rcases HCS.out with ⟨h1, h2, h3⟩ | ⟨h1, h2, _⟩
            · exact ⟨by rw [hun, h3], by rw [h2], by rw [h1], hLF⟩
            · omega
  case rest =>
  rename World => WQ
  obtain ⟨rfl, rfl, rfl, hLF⟩ := hcut
  clear HLF4 hnw4 HNS HCS
  have hnwc := (hLF.ld.la.bel.cell (p := ⟨nB, 0, none⟩) (World.block_lt_of_cell? _ _ hn0)).trans hn0
  have hwwc := (hLF.ld.la.bel.cell (p := ⟨wB, 0, none⟩) (World.block_lt_of_cell? _ _ hw0)).trans hw0
  have hbNW : i46.bytes * NW ≤ 281474976710656 := by rw [hz462]; omega
  have hmNW : NW ≤ maxLen := by unfold maxLen; omega
  have HLFc := hide hLF
  clear hLF
  go_upto_block 10 with (first
    | (at_make; refine wpList_make_full _ rfl (.tmp 238) (.tmp 238) 34 rfl WQ.heap.size 46 i46 _ 1 Yba.underlying34 hi46 hz460 hz461 _ _ _ _ NW rfl rfl rfl rfl hbNW hmNW (Nat.le_refl _) ?_; intro w1 hown1 hgr1)
    | go_in)
  rw [made_toList _ rfl, ← HNW.out, ← rowsOf_zero] at hown1
  have hbl1 : Below WQ.heap.size WQ w1 := (Below.refl _ _).grown hgr1 (Nat.le_refl _) (fun k hk => by cases hk)
  have HO1 := hide hown1
  have HBL1 := hide hbl1
  clear hown1 hgr1 hbl1
  obtain ⟨qb, hqb⟩ : ∃ qb, WQ.heap.size = qb := ⟨_, rfl⟩
  have HQB := hide hqb
  rw [hqb]
  clear hqb
  go_cut [40] (fun _ W => LF W0 W n n1 m width db jb sb vb gb bb tb pb ob k NW (.slice at2 m ct) (.slice ah2 m ch) scv vcv E V Le fl fo ∧ W.ownsRow 0 46 1 (.slice (some ⟨qb, 0, none⟩) NW NW) NW (rowsOf n width (fun u y => decide (u < k) && R E u y)))
  case first =>
    as_aux_lemma =>
      go_wp2_with fail
      go_loopw [40] (fun vu W => ∃ u : Nat, vu = .int .i64 u ∧ u ≤ k ∧ Below WQ.heap.size WQ W ∧ W.ownsRow WQ.heap.size 46 1 (.slice (some ⟨qb, 0, none⟩) NW NW) NW (rowsOf n width (fun u' y => decide (u' < u) && R E u' y))) (fun vu _ => k - (intOf vu).toNat)
      case atStart =>
        refine ⟨0, rfl, Nat.zero_le _, HBL1.out, ?_⟩
        rw [rowsOf_congr (G := fun _ _ => false) (fun u y _ => by simp), ← HQB.out]
        rw [HNW.out] at *
        exact HO1.out
      case round =>
        as_aux_lemma =>
          clear HO1 HBL1
          obtain ⟨u, rfl, hu, hbl, hown⟩ := hrel
          have hnw := (hbl.cell (p := ⟨nB, 0, none⟩) (World.block_lt_of_cell? _ _ hnwc)).trans hnwc
          have hww := (hbl.cell (p := ⟨wB, 0, none⟩) (World.block_lt_of_cell? _ _ hwwc)).trans hwwc
          have hLF := HLFc.out.below hbl
          by_cases hlt : u < k
          · have hun : u < n := by omega
            have hbn4 : i4.bytes * n ≤ 281474976710656 := by rw [hz42]; omega
            have HLFr := hide hLF
            have HOW := hide hown
            have HBLr := hide hbl
            clear hLF hown hbl
            go_upto_block 12 with (first
              | (at_make; refine wpList_make_full _ rfl (.tmp 245) (.tmp 245) 24 rfl wr.heap.size 4 i4 _ 1 Yba.underlying24 hi4 hz40 hz41 _ _ _ _ n rfl rfl rfl rfl hbn4 hmn (Nat.le_refl _) ?_; intro w2 hown2 hgr2)
              | go_in)
            rw [made_toList _ rfl, ← visRow_none] at hown2
            have hbl2 : Below wr.heap.size wr w2 := (Below.refl _ _).grown hgr2 (Nat.le_refl _) (fun k hk => by cases hk)
            have hst : (w2.alloc (.cells #[.int .i64 (u : Nat)] 3)).ownsRow wr.heap.size 3 1 (.slice (some ⟨w2.heap.size, 0, none⟩) 1 1) 1 (ints [u]) := ⟨rfl, Or.inr ⟨w2.heap.size, 1, _, rfl, hbl2.size, heap_alloc_new w2 _, Nat.le_refl _, by unfold maxLen; omega, rfl, rfl⟩⟩
            have hvi := hown2.alloc (.cells #[.int .i64 (u : Nat)] 3)
            have hbl3 := hbl2.alloc hbl2.size (.cells #[.int .i64 (u : Nat)] 3)
            clear hown2 hgr2 hbl2
            revert hst hvi hbl3
            generalize w2.alloc (.cells #[.int .i64 (u : Nat)] 3) = W3
            generalize w2.heap.size = sk
            generalize hyb : wr.heap.size = yb
            intro hst hvi hbl3
            go_cut [42] (fun _ W => Below yb wr W ∧ W.ownsRow yb 4 1 (.slice (some ⟨yb, 0, none⟩) n n) n (visRow n (R E u)))
            case first =>
              as_aux_lemma =>
                go_wp2_with fail
                go_loopw [42, 43, 44] (fun sv _ _ W => ∃ (S : List Nat) (Vs : Nat → Bool), Below yb wr W ∧ W.ownsRow yb 4 1 (.slice (some ⟨yb, 0, none⟩) n n) n (visRow n Vs) ∧ W.ownsRow yb 3 1 sv S.length (ints S) ∧ Dfs E u S Vs ∧ Hid (2 * unv Vs n + S.length ≤ 2 * n + 1)) (fun sv _ _ W => 2 * Go.Proofs.Ybulkedwa.left W yb n + lenOfV sv)
                case atStart => exact ⟨[u], fun _ => false, hbl3, hvi, hst, Dfs.start E u, by rw [unv_none]; exact Nat.le_refl _⟩
                case round =>
                  as_aux_lemma =>
                    clear hbl3 hvi hst
                    obtain ⟨S, Vs, hb, hvi, hst, hD, hSl⟩ := hrel
                    have hleft : Go.Proofs.Ybulkedwa.left wr yb n = unv Vs n := left_eq fun y hy => by rw [hvi.cellAt y (by have := hvi.1; rw [visRow_length] at this; omega), visRow_at Vs hy]
                    have HLeft := hide hleft
                    clear hleft
                    have hLF := HLFr.out.below (hyb ▸ hb)
                    have hdn := hLF.ld.la.dn
                    rcases List.eq_nil_or_concat S with hS0 | ⟨S', x, hSx⟩
                    · subst hS0
                      obtain ⟨as', cs', rfl, _⟩ := row_val hst
                      go_wp2
                      go_meet
                      refine ⟨hb, ?_⟩
                      rw [← show Vs = R E u from funext fun y => hD.done hdn y]
                      exact hvi
                    · rw [List.concat_eq_append] at hSx
                      subst hSx
                      have hx0 := hD.src x (by simp)
                      have hxn : x < n := by
                        rcases hx0 with e | e
                        · omega
                        · have := R_lt E hdn u x (hD.snd x e); omega
                      obtain ⟨sg, cs', rfl, hcx, hcap, hcapm, hst'⟩ := stack_top hst
                      have hDi := DfsIn.start hD
                      have hl600 : 2 * unv Vs n + (S'.length + 1) ≤ 2 * n + 1 := by have := hSl.out; simpa using this
                      obtain ⟨l, hl⟩ : ∃ l, S'.length = l := ⟨_, rfl⟩
                      have HSL := hide hl
                      rw [hl] at hcx hcap hst' hl600 ⊢
                      clear hl hSl
                      have HST' := hide hst'
                      have HVI := hide hvi
                      have HBB := hide hb
                      have HDI := hide hDi
                      have HDN := hide hdn
                      clear hst' hvi hb hDi hst hD hdn hLF hx0
                      have hl1z : (0 : Int) < (l : Int) + 1 := by omega
                      unfold maxLen at hcapm
                      go_upto_block 14 with fail
                      go_wp2_with fail
                      go_loopw [42, 44] (fun sv vy W => ∃ (y : Nat) (S : List Nat) (Vt : Nat → Bool), vy = .int .i64 y ∧ y ≤ x ∧ Below yb wr W ∧ W.ownsRow yb 4 1 (.slice (some ⟨yb, 0, none⟩) n n) n (visRow n Vt) ∧ W.ownsRow yb 3 1 sv S.length (ints S) ∧ DfsIn E u x y S Vt ∧ Hid (2 * unv Vt n + S.length ≤ 2 * unv Vs n + l) ∧ S.length ≤ l + y) (fun _ vy _ => x - (intOf vy).toNat)
                      case atStart => exact ⟨0, S', Vs, rfl, Nat.zero_le _, ⟨rfl, rfl, rfl, Nat.le_refl _, fun _ _ => rfl⟩, HVI.out, by rw [HSL.out]; exact HST'.out, HDI.out, by rw [HSL.out]; exact Nat.le_refl _, by rw [HSL.out]; omega⟩
                      case round =>
                        as_aux_lemma =>
                          clear HST' HVI HDI hcx
                          obtain ⟨y, S, Vt, rfl, hyx, hb, hvi, hst, hDi, HMu, hSy⟩ := hrel
                          have hb0 := HBB.out.trans hb
                          have hLF := HLFr.out.below (hyb ▸ hb0)
                          have hnw := (hLF.ld.la.bel.cell (p := ⟨nB, 0, none⟩) (World.block_lt_of_cell? _ _ hn0)).trans hn0
                          by_cases hylt : y < x
                          · have hyn : y < n := by omega
                            have hix := sq_ix hxn hyn
                            have hA := hLF.ld.la.l4.a
                            have hal := hA.1
                            have hca := (hA.cellAt (x * n + y) (by omega)).trans (adjRow_at E hxn hyn)
                            have hvl := hvi.1
                            have hcv := (hvi.cellAt y (by rw [visRow_length] at hvl; omega)).trans (visRow_at Vt hyn)
                            have hfv := hvi.frozenAt y
                            have HB' := hide hb
                            have HVI' := hide hvi
                            have HST2 := hide hst
                            have HDI2 := hide hDi
                            clear hb hvi hst hDi hb0 hLF hA hal hvl
                            by_cases hadj : (x, y) ∈ E
                            · rw [decide_eq_true hadj] at hca
                              have HADJ := hide hadj
                              clear hadj
                              cases hvy : Vt y with
                              | true =>
                                rw [hvy] at hcv
                                have HVY := hide hvy
                                clear hvy
                                go_wp2
                                go_roundw
                                case rel => exact ⟨y + 1, S, Vt, by go_num, by omega, HB'.out, HVI'.out, HST2.out, HDI2.out.skip (fun _ => HVY.out), HMu, by omega⟩
                                case measure => simp [intOf]; omega
                              | false =>
                                rw [hvy] at hcv
                                have HVY := hide hvy
                                clear hvy
                                go_upto_region 72 with fail
                                obtain ⟨g1, g2⟩ := HVI'.out.stored y (.bool true)
                                rw [visRow_set] at g1
                                have g3 := HST2.out.kept g2 (by have := rows_apart HST2.out HVI'.out (by decide); simpa [Value.ownBlock] using this)
                                have g4 := HB'.out.grown g2 (Nat.le_of_lt (HVI'.out.lt yb rfl).2) (fun k hk => by cases hk; exact (HVI'.out.lt yb rfl).1)
                                clear g2 HVI' HST2 HB' hcv hfv hca hnw
                                revert g1 g3 g4
                                generalize wr.setCell ⟨yb, y, none⟩ (.bool true) = W5
                                intro g1 g3 g4
                                have hs5 : yb ≤ W5.heap.size := Nat.le_of_lt (g1.lt yb rfl).2
                                go_wp2_with (first
                                  | (at_builtin; refine wpList_append_own_at _ rfl _ (.tmp 288) 23 rfl yb 3 i3 (.int .i64 0) 1 8 Yba.underlying23 hi3 hz30 hz31 hz32 rfl (by decide) _ _ _ rfl (g3.alloc _) ⟨W5.heap.size, 0, none⟩ 1 1 [.int .i64 (y : Nat)] rfl rfl (newsK _ _ _) (by simp [Value.oneCell']) ?c3 ?c4 ?c5 ?_)
                                  | go_in)
                                case c3 => unfold maxLen; omega
                                case c4 => omega
                                case c5 => simp; omega
                                intro sv2 W6 hown6 hg6 _ _
                                have hap5 := rows_apart g1 g3 (by decide)
                                have q1 := (g1.alloc (.cells #[.int .i64 (y : Nat)] 3)).kept hg6 hap5
                                have q2 := (g4.alloc hs5 (.cells #[.int .i64 (y : Nat)] 3)).grown hg6 (by simp; omega) (fun k hk => (g3.lt k hk).1)
                                have HQ1 := hide q1
                                have HQ2 := hide q2
                                have HQ3 := hide hown6
                                clear q1 q2 hown6 hg6 g1 g3 g4 hap5
                                go_wp2
                                go_roundw
                                case rel =>
                                  refine ⟨y + 1, S ++ [y], fun z => Vt z || z == y, by go_num, by omega, HQ2.out, HQ1.out, ?_, HDI2.out.push HDN.out HADJ.out, ?_, by simp; omega⟩
                                  · rw [List.length_append, List.length_singleton, ints_snoc]
                                    exact HQ3.out
                                  · have h1 := unv_set HVY.out n hyn
                                    have h2 := HMu.out
                                    show 2 * unv (fun z => Vt z || z == y) n + (S ++ [y]).length ≤ _
                                    rw [List.length_append, List.length_singleton]
                                    omega
                                case measure => simp [intOf]; omega
                            · rw [decide_eq_false hadj] at hca
                              have HADJ := hide hadj
                              clear hadj
                              go_wp2
                              go_roundw
                              case rel => exact ⟨y + 1, S, Vt, by go_num, by omega, HB'.out, HVI'.out, HST2.out, HDI2.out.skip (fun h => absurd h HADJ.out), HMu, by omega⟩
                              case measure => simp [intOf]; omega
                          · have HB' := hide hb0
                            have HVI' := hide hvi
                            have HST2 := hide hst
                            have HDI2 := hide hDi
                            have hSf := hSy
                            clear hb hvi hst hDi hb0 hLF hnw
                            go_wp2
                            go_roundw
                            case rel => exact ⟨S, Vt, HB'.out, HVI'.out, HST2.out, HDI2.out.fin HDN.out (by omega), Nat.le_trans HMu.out (by omega)⟩
                            case measure =>
                              have hl2 : Go.Proofs.Ybulkedwa.left wr yb n = unv Vt n := left_eq fun y hy => by rw [HVI'.out.cellAt y (by have := HVI'.out.1; rw [visRow_length] at this; omega), visRow_at Vt hy]
                              obtain ⟨a6, c6, e6, _⟩ := row_val HST2.out
                              have h2 := HMu.out
                              rw [hl2, HLeft.out, e6]
                              simp [lenOfV]
                              omega
            case rest =>
              clear hbl3 hvi hst
              obtain ⟨hb, hvi⟩ := hcut
              have hbO : Below wr.heap.size wr wc := hyb ▸ hb
              have hLF := HLFr.out.below hbO
              have hown := row_below_all hbO HOW.out
              have hblO := HBLr.out.trans (Below.lower hbO HBLr.out.size)
              have hnw1 := (hLF.ld.la.bel.cell (p := ⟨nB, 0, none⟩) (World.block_lt_of_cell? _ _ hn0)).trans hn0
              have hww1 := (hLF.ld.la.bel.cell (p := ⟨wB, 0, none⟩) (World.block_lt_of_cell? _ _ hw0)).trans hw0
              have hdn := hLF.ld.la.dn
              have hat := wrapAt n u width hun hn hw4
              obtain ⟨ru, hru⟩ : ∃ ru, (n - 1 - u) * width = ru := ⟨_, rfl⟩
              rw [hru] at hat
              have HRU := hide hru
              have hown' := hide hown
              have HVI := hide hvi
              have HBO := hide hblO
              have HDN := hide hdn
              clear hru hown hvi hblO hdn hb hbO hLF HLFr HOW HBLr
              go_upto_block 16 with fail
              rw [hat]
              clear hat hnw1 hww1
              go_wp2_with fail
              go_loopw [46] (fun vv W => ∃ v : Nat, vv = .int .i64 v ∧ v ≤ n ∧ Below WQ.heap.size WQ W ∧ W.ownsRow WQ.heap.size 46 1 (.slice (some ⟨qb, 0, none⟩) NW NW) NW (rowsOf n width (Fv E u v)) ∧ W.ownsRow yb 4 1 (.slice (some ⟨yb, 0, none⟩) n n) n (visRow n (R E u))) (fun vv _ => n - (intOf vv).toNat)
              case atStart =>
                refine ⟨0, rfl, Nat.zero_le _, HBO.out, ?_, HVI.out⟩
                rw [← rowsOf_congr (fun u' y _ => Fv_start E u u' y)]
                exact hown'.out
              case round =>
                as_aux_lemma =>
                  clear HBO hown' HVI
                  obtain ⟨v, rfl, hv, hb, hown, hvi⟩ := hrel
                  have hnw := (hb.cell (p := ⟨nB, 0, none⟩) (World.block_lt_of_cell? _ _ hnwc)).trans hnwc
                  by_cases hvn : v < n
                  · have hvl := hvi.1
                    have hcv := (hvi.cellAt v (by rw [visRow_length] at hvl; omega)).trans (visRow_at (R E u) hvn)
                    have HB := hide hb
                    have HO := hide hown
                    have HVI := hide hvi
                    cases hR : R E u v with
                    | false =>
                      rw [hR] at hcv
                      have HR := hide hR
                      clear hR hb hown hvi hvl
                      go_wp2
                      go_roundw
                      case rel => exact ⟨v + 1, by go_num, by omega, HB.out, by rw [← rowsOf_congr (fun u' y _ => Fv_skip E u v u' y HR.out)]; exact HO.out, HVI.out⟩
                      case measure => simp [intOf]; omega
                    | true =>
                      rw [hR] at hcv
                      have HR := hide hR
                      have hv64 : v / 64 < width := by have := HWD.out; omega
                      have hri := row_ix hun hv64
                      rw [HRU.out, HNW.out] at hri
                      have hol := hown.1
                      have hcq := (hown.cellAt (ru + v / 64) (by omega)).trans (show (rowsOf n width (Fv E u v))[ru + v / 64]? = some (.int .u64 ((word (Fv E u v u) (v / 64) : Nat) : Int)) by rw [← HRU.out]; exact rowsOf_at _ hun hv64)
                      have hfq := hown.frozenAt (ru + v / 64)
                      obtain ⟨A, hA⟩ : ∃ A, word (Fv E u v u) (v / 64) = A := ⟨_, rfl⟩
                      rw [hA] at hcq
                      have hAl : A < 18446744073709551616 := by rw [← hA]; exact word_lt _ _
                      obtain ⟨r, hr⟩ : ∃ r, v % 64 = r := ⟨_, rfl⟩
                      have hr64 : r < 64 := by omega
                      have h2 : 2 ^ r < 18446744073709551616 := Nat.pow_lt_pow_right (a := 2) (n := 64) (by omega) hr64
                      have h1 : (2 : Int) ^ r = ((2 ^ r : Nat) : Int) := by simp
                      obtain ⟨X, hX⟩ : ∃ X, 2 ^ r = X := ⟨_, rfl⟩
                      rw [hX] at h1 h2
                      have hpw : IntKind.u64.wrap ((2 : Int) ^ r) = (X : Int) := by
                        rw [h1, IntKind.wrap_u64]
                        omega
                      have hor : bits .or .u64 (A : Int) (X : Int) = ((A ||| X : Nat) : Int) := bits_or_u64_nat A X hAl h2
                      obtain ⟨g1, g2⟩ := hown.stored (ru + v / 64) (.int .u64 ((A ||| X : Nat) : Int))
                      have g3 := hvi.kept g2 (by have := rows_apart hvi hown (by decide); simpa [Value.ownBlock] using this)
                      have g4 := hb.grown g2 hb.size (fun k hk => by cases hk; exact (hown.lt qb rfl).1)
                      have g5 : (rowsOf n width (Fv E u v)).set (ru + v / 64) (.int .u64 ((A ||| X : Nat) : Int)) = rowsOf n width (Fv E u (v + 1)) := by
                        rw [← hA, ← hX, ← hr, word_set, ← HRU.out, rowsOf_set _ _ hun hv64]
                        exact rowsOf_congr fun u' y _ => Fv_set E u v u' y HR.out
                      rw [g5] at g1
                      have HG1 := hide g1
                      have HG3 := hide g3
                      have HG4 := hide g4
                      have hrz : (v : Int) % 64 = (r : Int) := by omega
                      have hiz0 : (0 : Int) ≤ (ru : Int) + (v : Int) / 64 := by omega
                      have hiz1 : (ru : Int) + (v : Int) / 64 < (NW : Int) := by omega
                      have hru2 : ru ≤ 2000 := by omega
                      clear g1 g2 g3 g4 g5 hA hr hX h1 hR hb hown hvi hvl hol
                      go_wp2
                      go_roundw
                      case rel => exact ⟨v + 1, by go_num, by omega, HG4.out, HG1.out, HG3.out⟩
                      case measure => simp [intOf]; omega
                  · have HB := hide hb
                    have HO := hide hown
                    have HVN := hide (show v = n by omega)
                    clear hb hown hvi
                    go_wp2
                    go_roundw
                    case rel =>
                      refine ⟨u + 1, by go_num, by omega, HB.out, ?_⟩
                      have h := HO.out
                      rw [HVN.out, rowsOf_congr (fun u' y _ => Fv_end E HDN.out u n u' y hun)] at h
                      exact h
                    case measure => simp [intOf]; omega
          · go_wp2
            go_meet
            have huk : u = k := by omega
            rw [huk] at hown
            exact ⟨hLF, row_base (Nat.zero_le _) hown⟩
  case rest =>
  clear HO1 HBL1
  obtain ⟨hLF, hwant⟩ := hcut
  have hpc6 : wc.cell? ⟨pb, 6, none⟩ = some (.slice (some ⟨bb, 0, none⟩) NW NW) := by simp [World.cell?, hLF.pc, pcA]
  have hrl : (rowsOf n width (fun u y => decide (u < k) && R E u y)).length = NW := by rw [rowsOf_length]; exact HNW.out
  have hru : ∀ v ∈ rowsOf n width (fun u y => decide (u < k) && R E u y), ∃ z, v = .int .u64 z := fun v hv => by
    obtain ⟨t, _, rfl⟩ := List.mem_map.1 hv
    exact ⟨_, rfl⟩
  have c8 := eqW_any _ NW (some ⟨bb, 0, none⟩) (some ⟨qb, 0, none⟩) NW NW wc hrl (by omega) hru (fun i v hv => ⟨_, rfl, row_cells hLF.bits i v hv⟩) (fun i v hv => ⟨_, rfl, row_cells hwant i v hv⟩)
  have HLFh := hide hLF
  clear hrl hru hLF hwant
  go_upto_region 81 with (first
    | (go_at_call 8; refine c8.mono ?_; rintro e w5 ⟨rfl, q5, hw5⟩; have HW5 := hide hw5; clear hw5)
    | go_in)
  have hLF5 : LF W0 w5 n n1 m width db jb sb vb gb bb tb pb ob k NW (.slice at2 m ct) (.slice ah2 m ch) scv vcv E V Le fl fo := by
    rw [HW5.out]
    exact HLFh.out.below (below_drewN _ _ _)
  clear HW5 HLFh c8 hpc6
  have p4 : w5.cell? ⟨pb, 4, none⟩ = some (.int .i64 (n : Nat)) := by simp [World.cell?, hLF5.pc, pcA]
  have p5 : w5.cell? ⟨pb, 5, none⟩ = some (.int .i64 (width : Nat)) := by simp [World.cell?, hLF5.pc, pcA]
  have p32 : w5.cell? ⟨pb, 32, none⟩ = some (.pointer (some ⟨tb, 0, none⟩)) := by simp [World.cell?, hLF5.pc, pcA]
  have p33 : w5.cell? ⟨pb, 33, none⟩ = some (.int .i64 fl) := by simp [World.cell?, hLF5.pc, pcA]
  have p34 : w5.cell? ⟨pb, 34, none⟩ = some (.int .i64 fo) := by simp [World.cell?, hLF5.pc, pcA]
  have ptb : w5.cell? ⟨tb, 0, none⟩ = some (.int .i64 Le) := by simp [World.cell?, hLF5.left]
  have hn5 := (hLF5.ld.la.bel.cell (p := ⟨nB, 0, none⟩) (World.block_lt_of_cell? _ _ hn0)).trans hn0
  have hw5 := (hLF5.ld.la.bel.cell (p := ⟨wB, 0, none⟩) (World.block_lt_of_cell? _ _ hw0)).trans hw0
  have HLF5 := hide hLF5
  clear hLF5
  have hneq := neq30 ⟨tb, 0, none⟩
  go_upto_region 83 with fail
  clear hneq
  go_quiet (fail)
  have hLF6 := HLF5.out.below (below_drewN w5.heap.size w5 nq)
  clear HLF5 p4 p5 p32 p33 p34 ptb hn5 hw5
  have HLF6 := hide hLF6
  clear hLF6
  revert HLF6
  show _ → Exit.then _ _ _ _ (w5.drewN nq)
  generalize w5.drewN nq = W6
  intro HLF6
  go_wp2
  go_loopw [47, 380] (fun _ vi W => ∃ i : Nat, vi = .int .i64 i ∧ i ≤ n ∧ LF W0 W n n1 m width db jb sb vb gb bb tb pb ob k NW (.slice at2 m ct) (.slice ah2 m ch) scv vcv E V Le fl fo) (fun _ vi _ => n - (intOf vi).toNat)
  case atStart => exact ⟨0, rfl, Nat.zero_le _, HLF6.out⟩
  case round =>
    as_aux_lemma =>
      clear HLF6
      obtain ⟨i, rfl, hi, hLF⟩ := hrel
      by_cases hlt : i < n
      · have hol := hLF.od.1
        have hco := (hLF.od.cellAt i (by omega)).trans (upTo_at hlt hlt)
        have HL := hide hLF
        clear hLF hol
        go_wp2
        go_roundw
        case rel => exact ⟨i + 1, by go_num, by omega, HL.out⟩
        case measure => simp [intOf]; omega
      · have harc := hLF.ld.arc
        have ha0 : wr.cell? ⟨gb, 0, none⟩ = some (.slice (some ⟨sb, 0, none⟩) n1 n1) := by simp [World.cell?, harc]
        have ha1 : wr.cell? ⟨gb, 1, none⟩ = some (.slice (some ⟨vb, 0, none⟩) m m) := by simp [World.cell?, harc]
        obtain ⟨asc, csc, rfl, hsc⟩ := row_val hLF.ld.sc
        obtain ⟨avc, cvc, rfl, hvc⟩ := row_val hLF.ld.vc
        have c9 := eqI_any (stRow E n1 n) n1 (some ⟨sb, 0, none⟩) asc n1 csc wr (stRow_length _ _ _) (by omega) (fun v hv => by
            obtain ⟨t, _, rfl⟩ := List.mem_map.1 hv
            exact ⟨_, rfl⟩) (fun i v hv => ⟨_, rfl, row_cells hLF.ld.sta i v hv⟩) (fun i v hv => by
            obtain ⟨g, rfl⟩ := hsc (by omega)
            exact ⟨_, rfl, row_cells hLF.ld.sc i v hv⟩)
        have hVl : (ints V).length = m := by have := hLF.ld.val.1; omega
        have c9' := fun q => eqI_any (ints V) m (some ⟨vb, 0, none⟩) avc m cvc (wr.drewN q) hVl (by omega) (fun v hv => by
            obtain ⟨t, _, rfl⟩ := List.mem_map.1 hv
            exact ⟨_, rfl⟩) (fun i v hv => ⟨_, rfl, row_cells hLF.ld.val i v hv⟩) (fun i v hv => by
            have hil := (List.getElem?_eq_some_iff.1 hv).1
            obtain ⟨g, rfl⟩ := hvc (by omega)
            exact ⟨_, rfl, row_cells hLF.ld.vc i v hv⟩)
        have hbe : Below w.heap.size w wr := HB0.out.trans (Below.lower hLF.ld.la.bel HB0.out.size)
        have HBE := hide hbe
        clear hLF harc hsc hvc hbe hVl
        go_wp2_with (first
          | (go_at_call_of 9 (Value.slice (some ⟨sb, 0, none⟩) n1 n1); refine c9.mono ?_; rintro e w7 ⟨rfl, q7, rfl⟩)
          | (go_at_call 9; refine (c9' _).mono ?_; rintro e w8 ⟨rfl, q8, rfl⟩)
          | go_in)
        go_ret
        refine ⟨rfl, ?_⟩
        exact HBE.out.trans (below_drewN _ _ _)
end Go.Proofs.Ybulkedwa
