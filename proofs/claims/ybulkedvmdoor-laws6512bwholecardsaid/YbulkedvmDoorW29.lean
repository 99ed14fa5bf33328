import Derived.Test.YbulkedvmDoorW28
namespace Go.Proofs.YbulkedvmDoor
open Go Go.RowKit Go.Lib Go.Maps Go.Sort
set_option maxRecDepth 100000
set_option linter.unusedSimpArgs false

set_option maxHeartbeats 8000000 in
theorem law_small (at0 : Option Addr) (n c : Nat) (ps : Nat → KN) (ab : Option Addr) (nb cb : Nat) (bs : List UInt8) (w : World) (hn : n ≤ 4096) (hnb : nb ≤ 1048576) (ha0 : at0 = none → n = 0)
    (hps : 0 < n → ∃ sb so, at0 = some ⟨sb, so, none⟩ ∧ sb < w.heap.size ∧ ∀ k, k < n → w.rangeAt sb (so + k * 17) (pairCells (ps k))) (hpu : ∀ k, k < n → (ps k).2 < 18446744073709551616)
    (hb0 : ab = none → nb = 0 ∧ cb = 0) (hbl : bs.length = nb) (hbs : ∀ a, ab = some a → BytesAt w a bs) (htab : Lib.TabIs Ybad.prog w powName .u64 Lib.pow10Tab) :
    Calls Ybad.prog 3 #[.slice at0 n c, .slice ab nb cb] w fun e w' => e = .returned (.bool true) ∧ Below w.heap.size w w' := by
  have hq := fun (wx : World) (a : Option Addr) (n c : Nat) => run_neq_slice_nil_any (P := Ybad.prog) wx 22 31 a n c 0 0 Ybad.underlying22
  have hmm := @run_makeMap Ybad.prog
  have mixed : Ybad.prog.follows Departure.mixedOrders = true := by kernel_rfl
  have HPS := hide hps
  have HPU := hide hpu
  have HB0 := hide hb0
  have HBL := hide hbl
  have HBS := hide hbs
  have HTAB := hide htab
  have HA0 := hide ha0
  clear hps hpu hb0 hbl hbs htab ha0
  go_enter Ybad.func3, Ybad.ntmps3
  go_upto_if 33 with fail
  go_cut [5] (fun v W => V0 w at0 v W)
  case first =>
    as_aux_lemma =>
      cases at0 with
      | none =>
        go_wp2
        go_meet
        exact Or.inl ⟨rfl, rfl, rfl⟩
      | some a =>
        go_wp2
        go_meet
        exact Or.inr ⟨⟨a, rfl⟩, rfl, rfl⟩
  case rest =>
  have HV := hide hcut
  clear hcut
  go_upto_block 0 with fail
  go_cut [6, 7] (fun ms ns W => ∃ N L, N ≤ 4096 ∧ S2 w W u5 ms ns N L L)
  case first =>
    as_aux_lemma =>
      go_wp2_with fail
      go_loopw [6, 7, 37] (fun ms ns vi W => ∃ (k : Nat) (L : List KN), vi = .int .i64 k ∧ k ≤ n ∧ S2 w W u5 ms ns k L L) (fun _ _ vi _ => n - (intOf vi).toNat)
      case atStart => exact ⟨0, [], rfl, Nat.zero_le _, V0.start HV.out⟩
      case round =>
        as_aux_lemma =>
          obtain ⟨k, L, rfl, hk, hB0⟩ := hrel
          by_cases hlt : k < n
          · obtain ⟨sb, so, rfl, hsb, hps⟩ := HPS.out (by omega)
            have hpu := HPU.out
            obtain rfl : u5 = .map (some w.heap.size) := by
              rcases HV.out with ⟨h1, _⟩ | ⟨_, h2, _⟩
              · cases h1
              · exact h2
            have hB := hB0.b1
            clear hB0
            have hrg : wr.rangeAt sb (so + k * 17) (pairCells (ps k)) := fun j v hj => (hB.bel.cell (p := ⟨sb, so + k * 17 + j, none⟩) hsb).trans (hps k hlt j v hj)
            have HRG := hide hrg
            have hth := hide (there_new wr 31 z17 (pairCells (ps k)).toArray.size (by simp [pairCells_length]))
            have hsi := hide (show (Ybad.prog.info? 31).map (·.size) = some (pairCells (ps k)).toArray.size by simpa using size31 (ps k))
            have hbox := hide (box_cells wr 31 z17 (pairCells (ps k)) (by rw [pairCells_length]; rfl))
            have hcnt := box_count wr (ps k)
            obtain ⟨n0, D, hn0, hmapA, hRD⟩ := (hB.alloc (.cells (pairCells (ps k)).toArray 31)).map.ex
            have hpk := hpu k hlt
            have hwf : (Lit.int .u64 ((ps k).2 : Nat)).wf = true := WalkArith.wf_u64 (by omega)
            clear hrg hps hpu
            go_upto_block 2 with (first
              | (refine wpList_load_mid rfl 31 (.tmp 39) rfl sb (so + k * 17) rfl (pairCells (ps k)) _ HRG.out Ybad.underlying31 rfl (size31 (ps k)) ?_)
              | (refine wpList_store_mid rfl 31 (.tmp 9) (.tmp 40) rfl wr.heap.size 0 (pairCells (ps k)).toArray rfl rfl hth.out hsi.out (all_oneCell_toArray (pair_one (ps k))) ?_; rw [show (wr.alloc (.cells z17 31)).setCells wr.heap.size 0 (pairCells (ps k)).toArray.toList = wr.alloc (.cells (pairCells (ps k)).toArray 31) from hbox.out])
              | (refine wpList_load_mid rfl 28 (.tmp 42) rfl wr.heap.size 0 rfl (Key.cells (ps k).1) _ (box_key wr (ps k)) Ybad.underlying28 rfl (size28 (ps k).1) ?_)
              | (at_mapUpdate; refine wpList_mapUpdate_own _ rfl _ _ _ 25 rfl 32 29 klaw Ybad.underlying25 _ w.heap.size n0 _ rfl hmapA (by unfold maxLen; omega) _ _ _ rfl rfl (keyOf_key (ps k).1) _ [] (plainElem_int Ybad.underlying29 hwf) ?_; intro w1 hown1 hgrow1)
              | go_in)
            have hB2 := hB.put (ps k) (Nat.le_refl _) hpk hn0 hmapA.isMap hRD hown1 hgrow1
            obtain ⟨len, hlen⟩ : ∃ len, L.length = len := ⟨_, rfl⟩
            have HLen := hide hlen
            have hll : len ≤ 4096 := by have := hB.map.len_le; omega
            clear hown1 hgrow1 hmapA hRD hcnt hth hsi hbox HRG hwf hlen hB
            generalize wr.heap.size = T at hB2 ⊢
            generalize ps k = p at hB2 ⊢
            go_cut [10] (fun fd W => (fd = .bool true ∧ ∃ L', L'.length = len ∧ B1 w W w.heap.size (k + 1) u6 u7 L') ∨ (fd = .bool false ∧ B2 w W w.heap.size (k + 1) T p u6 u7 L ∧ ∀ q ∈ L, q.1 ≠ p.1))
            case first =>
              as_aux_lemma =>
                go_wp2_with fail
                go_loopw [10, 11] (fun fd vj W => ∃ (j : Nat), fd = .bool false ∧ vj = .int .i64 j ∧ j ≤ len ∧ B2 w W w.heap.size (k + 1) T p u6 u7 L ∧ Hid (∀ a q, a < j → L[a]? = some q → q.1 ≠ p.1)) (fun _ vj _ => len - (intOf vj).toNat)
                case atStart => exact ⟨0, rfl, rfl, Nat.zero_le _, hB2, fun a q ha => by omega⟩
                case round =>
                  as_aux_lemma =>
                    clear hB2
                    obtain ⟨j, rfl, rfl, hj, hB2, HJ⟩ := hrel
                    have hkms := hB2.kms
                    have hkns := hB2.kns
                    rw [HLen.out] at hkms hkns
                    obtain ⟨am, cm, rfl, ham⟩ := row_val hkms
                    obtain ⟨an, cn, rfl, han⟩ := row_val hkns
                    by_cases hjl : j < len
                    · obtain ⟨gm, rfl⟩ := ham (by omega)
                      obtain ⟨gn, rfl⟩ := han (by omega)
                      have hjL : j < L.length := by rw [HLen.out]; exact hjl
                      obtain ⟨q, hq0⟩ : ∃ q, L[j]? = some q := ⟨_, List.getElem?_eq_getElem hjL⟩
                      have HQ0 := hide hq0
                      have hr1 := row_range hkms j q.1 (by rw [List.getElem?_map, hq0]; rfl)
                      have HL1 : Hid (∀ wz, (∃ nz, wz = wr.drewN nz) → wz.rangeAt gm (j * 16) q.1.cells) := fun wz ⟨nz, hz⟩ => by rw [hz]; exact hr1
                      have HL2 : Hid (∀ wz, (∃ nz, wz = wr.drewN nz) → wz.rangeAt T 0 p.1.cells) := fun wz ⟨nz, hz⟩ => by rw [hz]; exact box_key2 hB2.box
                      have he := eq28 q.1 p.1
                      have hcnt := box_count2 hB2.box
                      clear hkms hkns hq0 hr1
                      by_cases hkey : q.1 = p.1
                      · have hd : decide (q.1 = p.1) = true := by simp [hkey]
                        rw [hd] at he
                        have HK := hide hkey
                        clear hkey hd
                        go_wp2
                        refine wp_region_quiet_lit (by kernel_rfl) (by kernel_rfl) ?_
                        quiet_step (fail)
                        quiet_step (fail)
                        quiet_step (fail)
                        refine wpQuiet_load rfl 28 (.tmp 54) rfl gm (j * 16) rfl q.1.cells _ HL1.out Ybad.underlying28 rfl (size28 q.1) ?_
                        quiet_step (fail)
                        refine wpQuiet_load rfl 28 (.tmp 56) rfl T 0 rfl p.1.cells _ HL2.out Ybad.underlying28 rfl (size28 p.1) ?_
                        quiet_step (fail)
                        refine wpQuiet_nil ?_
                        rintro _ ⟨nq, rfl⟩
                        have hB3 := hB2.drewN nq
                        have hcnt3 := box_count2 hB3.box
                        have hkns3 := hB3.kns
                        rw [HLen.out] at hkns3
                        have hcl3 := hkns3.cellAt j (by have := hkns3.1; omega)
                        have hfr3 := hkns3.frozenAt j
                        obtain ⟨x3, hx3⟩ : ∃ x3, (numCells L)[j]? = some x3 := ⟨_, List.getElem?_eq_getElem (by simp [numCells, hjL])⟩
                        rw [hx3] at hcl3
                        have HB3 := hide hB3
                        clear hB3 hkns3 hx3 hcnt HL1 HL2 hB2
                        revert hcnt3 hcl3 hfr3 HB3
                        generalize wr.drewN nq = W3
                        intro hcnt3 hcl3 hfr3 HB3
                        go_wp2
                        go_meet
                        refine Or.inl ⟨rfl, L.set j p, by rw [List.length_set]; exact HLen.out, ?_⟩
                        have hB3 := HB3.out
                        rw [← HLen.out] at hB3 ⊢
                        obtain ⟨_, hqj⟩ := List.getElem?_eq_some_iff.1 HQ0.out
                        exact hB3.found j hjL (by rw [hqj]; exact HK.out)
                      · have hd : decide (q.1 = p.1) = false := by simp [hkey]
                        rw [hd] at he
                        have HK := hide hkey
                        clear hkey hd
                        go_wp2
                        refine wp_region_quiet_lit (by kernel_rfl) (by kernel_rfl) ?_
                        quiet_step (fail)
                        quiet_step (fail)
                        quiet_step (fail)
                        refine wpQuiet_load rfl 28 (.tmp 54) rfl gm (j * 16) rfl q.1.cells _ HL1.out Ybad.underlying28 rfl (size28 q.1) ?_
                        quiet_step (fail)
                        refine wpQuiet_load rfl 28 (.tmp 56) rfl T 0 rfl p.1.cells _ HL2.out Ybad.underlying28 rfl (size28 p.1) ?_
                        quiet_step (fail)
                        refine wpQuiet_nil ?_
                        rintro _ ⟨nq, rfl⟩
                        go_wp2
                        go_roundw
                        case rel =>
                          refine ⟨j + 1, rfl, by go_num, by omega, hB2.drewN nq, fun a q' ha hq' => ?_⟩
                          by_cases haj : a = j
                          · subst haj
                            have := HQ0.out.symm.trans hq'
                            injection this with this
                            subst this
                            exact HK.out
                          · exact HJ.out a q' (by omega) hq'
                        case measure => simp [intOf]; omega
                    · have hjl2 : j = len := by omega
                      clear hkms hkns
                      go_wp2
                      go_meet
                      refine Or.inr ⟨rfl, hB2, fun q hq => ?_⟩
                      obtain ⟨a, ha, rfl⟩ := List.getElem_of_mem hq
                      exact HJ.out a _ (by rw [hjl2, ← HLen.out]; exact ha) (List.getElem?_eq_getElem ha)
            case rest =>
              clear hB2
              rcases hcut with ⟨rfl, L', hL', hB⟩ | ⟨rfl, hB2, hne⟩
              · go_wp2
                go_roundw
                case rel => exact ⟨k + 1, L', by go_num, by omega, hB.s2⟩
                case measure => simp [intOf]; omega
              · obtain ⟨i0, hi, hz0, hz1, hz2⟩ := info_parts Ybad.info28
                obtain ⟨i1, hj, hy0, hy1, hy2⟩ := info_parts Ybad.info29
                have hcl := Key.cells_length p.1
                have hfold := fold_key p.1
                have hkms := hB2.kms
                rw [HLen.out] at hkms
                have hle2 := hB2.bel.size
                have hrg := hide (box_key2 hB2.box)
                have HNE := hide hne
                clear hne
                go_wp2_with (first
                  | (refine wpList_load_mid rfl 28 (.tmp 67) rfl T 0 rfl (Key.cells p.1) _ hrg.out Ybad.underlying28 rfl (size28 p.1) ?_)
                  | (at_builtin; refine wpList_append_own_at _ rfl _ (.tmp 69) 26 rfl w.heap.size 28 i0 _ 16 16 Ybad.underlying26 hi hz0 hz1 hz2 rfl (by decide) _ _ _ rfl (hkms.alloc _) ⟨wc.heap.size, 0, none⟩ 1 1 (Key.cells p.1) rfl (by simp [Key.cells_length p.1]) ?c1 (Key.one p.1) ?c3 ?c4 ?c5 ?_)
                  | go_in)
                case c1 => exact newsK _ _ _
                case c3 => unfold maxLen; omega
                case c4 => omega
                case c5 => simp; omega
                intro ms2 W2 hown2 hg2 _ _
                rw [← HLen.out] at hown2
                have hB3 := hB2.grow hg2 hown2
                clear hown2 hg2 hkms hle2 hrg hB2
                have hcnt := box_count2 hB3.box
                have hkns := hB3.kns
                rw [HLen.out] at hkns
                have hle3 := hB3.bel.size
                go_wp2_with (first
                  | (at_builtin; refine wpList_append_own_at _ rfl _ (.tmp 74) 27 rfl w.heap.size 29 i1 _ 1 8 Ybad.underlying27 hj hy0 hy1 hy2 rfl (by decide) _ _ _ rfl (hkns.alloc _) ⟨W2.heap.size, 0, none⟩ 1 1 [.int .u64 (p.2 : Nat)] rfl rfl ?c1 (by simp [Value.oneCell']) ?c3 ?c4 ?c5 ?_)
                  | go_in)
                case c1 => exact newsK _ _ _
                case c3 => unfold maxLen; omega
                case c4 => omega
                case c5 => simp; omega
                intro ns2 W4 hown4 hg4 _ _
                rw [← HLen.out] at hown4
                have hB4 := hB3.grow hg4 hown4 HNE.out
                clear hown4 hg4 hkns hcnt hB3
                go_wp2
                go_roundw
                case rel => exact ⟨k + 1, L ++ [p], by go_num, by omega, hB4.s2⟩
                case measure => simp [intOf]; omega
          · go_wp2
            go_meet
            exact ⟨k, L, by omega, hB0⟩
  case rest =>
  obtain ⟨N, L, hN, hS1⟩ := hcut
  have HS1 := hide hS1
  obtain ⟨len, hlen⟩ : ∃ len, L.length = len := ⟨_, rfl⟩
  have HLen := hide hlen
  have hll : len ≤ 4096 := by have := hS1.map.len_le; omega
  have hk0 := hS1.kms
  have hn0 := hS1.kns
  rw [hlen] at hk0 hn0
  obtain ⟨am, cm, rfl, ham⟩ := row_val hk0
  obtain ⟨an, cn, rfl, han⟩ := row_val hn0
  have HAM := hide ham
  have HAN := hide han
  clear hS1 hlen hk0 hn0 ham han
  go_upto_block 4 with fail
  go_cut [12] (fun _ W => S2 w W u5 (.slice am len cm) (.slice an len cn) N L (sortP L))
  case first =>
    as_aux_lemma =>
      go_wp2_with fail
      go_loopw [12, 13, 14, 15] (fun vi _ _ _ W => ∃ (i : Nat) (P : List KN), vi = .int .i64 i ∧ 1 ≤ i ∧ (i ≤ len ∨ i = 1) ∧ S2 w W u5 (.slice am len cm) (.slice an len cn) N L P ∧ Hid (∀ a b, a < b → b < i → kn P a ≤ kn P b)) (fun vi _ _ _ _ => len - (intOf vi).toNat)
      case atStart => exact ⟨1, L, rfl, Nat.le_refl _, Or.inr rfl, HS1.out, fun a b h1 h2 => by omega⟩
      case round =>
        as_aux_lemma =>
          obtain ⟨i, P, rfl, hi1, hi2, hS, HS⟩ := hrel
          by_cases hlt : i < len
          · go_upto_block 5 with fail
            go_cut [13] (fun _ W => ∃ P', S2 w W u5 (.slice am len cm) (.slice an len cn) N L P' ∧ Hid (∀ a b, a < b → b < i + 1 → kn P' a ≤ kn P' b))
            case first =>
              as_aux_lemma =>
                go_wp2_with fail
                go_loopw [13, 14, 15] (fun vj _ _ W => ∃ (j : Nat) (P' : List KN), vj = .int .i64 j ∧ j ≤ i ∧ S2 w W u5 (.slice am len cm) (.slice an len cn) N L P' ∧ Hid (But P' i j)) (fun vj _ _ _ => (intOf vj).toNat)
                case atStart => exact ⟨i, P, rfl, Nat.le_refl _, hS, ⟨fun a b hab hb ha hbj => HS.out a b hab (by omega), fun b hb1 hb2 => by omega⟩⟩
                case round =>
                  as_aux_lemma =>
                    clear hS HS
                    obtain ⟨j, P', rfl, hj, hS, HS⟩ := hrel
                    cases j with
                    | zero =>
                      go_wp2
                      go_quiet (fail)
                      go_wp2
                      go_meet
                      exact ⟨P', hS.below ⟨rfl, rfl, rfl, Nat.le_refl _, fun _ _ => rfl⟩, fun a b hab hb => HS.out.stop (Or.inl rfl) a b hab (by omega)⟩
                    | succ j =>
                      have hPl : P'.length = len := by rw [hS.perm.length_eq]; exact HLen.out
                      obtain ⟨gm, rfl⟩ := HAM.out (by omega)
                      obtain ⟨gn, rfl⟩ := HAN.out (by omega)
                      obtain ⟨x, hx⟩ : ∃ x, P'[j]? = some x := ⟨_, List.getElem?_eq_getElem (by omega)⟩
                      obtain ⟨y, hy⟩ : ∃ y, P'[j + 1]? = some y := ⟨_, List.getElem?_eq_getElem (by omega)⟩
                      have hT := hS.three
                      have HPE := hide hS.perm
                      rw [hPl] at hT
                      have HPl := hide hPl
                      have HX := hide hx
                      have HY := hide hy
                      have hr1 := row_range hT.kms (j + 1) y.1 (by rw [List.getElem?_map, hy]; rfl)
                      have hr2 := row_range hT.kms j x.1 (by rw [List.getElem?_map, hx]; rfl)
                      have HL1 : Hid (∀ wz, (∃ pz : GrownBy, wz = grow (wr.drewN pz.n) pz.os) → wz.rangeAt gm ((j + 1) * 16) y.1.cells) := fun wz ⟨pz, hz⟩ => by rw [hz]; intro a v hv; exact Gr.cell ⟨_, _, rfl⟩ (hr1 a v hv)
                      have HL2 : Hid (∀ wz, (∃ pz : GrownBy, wz = grow (wr.drewN pz.n) pz.os) → wz.rangeAt gm (j * 16) x.1.cells) := fun wz ⟨pz, hz⟩ => by rw [hz]; intro a v hv; exact Gr.cell ⟨_, _, rfl⟩ (hr2 a v hv)
                      have hless : ∀ (n : Nat) (os : Array Obj), Calls Ybad.prog 4 #[.agg y.1.cells.toArray, .agg x.1.cells.toArray] (grow (wr.drewN n) os) fun e w'' => e = .returned (.bool (decide (y.1.num < x.1.num))) ∧ ∃ p : GrownBy, w'' = grow (wr.drewN p.n) p.os :=
                        fun n os => Calls.grown_of ((less_gr y.1 x.1 _).mono fun e w' ⟨he, q, os', hw⟩ => ⟨he, q, os', hw⟩)
                      clear hPl hx hy hT hr1 hr2
                      have hjl1 : j + 1 < len := by omega
                      have hjl2 : j < len := by omega
                      have hwj : IntKind.i64.wrap (j : Int) = j := by rw [IntKind.wrap_i64]; omega
                      have hjz1 : (0 : Int) ≤ (j : Int) + 1 := by omega
                      have hjz2 : (j : Int) + 1 < (len : Int) := by omega
                      by_cases hl : y.1.num < x.1.num
                      · rw [decide_eq_true hl] at hless
                        have HL := hide hl
                        clear hl
                        go_wp2
                        refine wp_region_quiet_grown (by assumption) (by kernel_rfl) ?_
                        quiet_step (fail)
                        quiet_step (fail)
                        quiet_step (fail)
                        quiet_step (fail)
                        quiet_step (fail)
                        quiet_step (fail)
                        refine wpQuiet_load rfl 28 (.tmp 89) rfl gm ((j + 1) * 16) rfl y.1.cells _ HL1.out Ybad.underlying28 rfl (size28 y.1) ?_
                        quiet_step (fail)
                        quiet_step (fail)
                        quiet_step (fail)
                        quiet_step (fail)
                        refine wpQuiet_load rfl 28 (.tmp 94) rfl gm (j * 16) rfl x.1.cells _ HL2.out Ybad.underlying28 rfl (size28 x.1) ?_
                        quiet_step ((go_at_call 4; with_reducible exact hless _ _))
                        quiet_step (fail)
                        refine wpQuiet_nil ?_
                        rintro _ ⟨⟨nq, osq⟩, rfl⟩
                        have hS3 := hS.below (Gr.below (w1 := grow (wr.drewN nq) osq) ⟨nq, osq, rfl⟩)
                        clear HL1 HL2 hless hS
                        revert hS3
                        show _ → Exit.then _ _ _ _ (grow (wr.drewN nq) osq)
                        generalize grow (wr.drewN nq) osq = W3
                        intro hS3
                        have hT0 := hS3.three
                        rw [HPl.out] at hT0
                        have hkl : (P'.map (·.1)).length = len := by rw [List.length_map]; exact HPl.out
                        have hT1 := hT0.alloc (.cells y.1.cells.toArray 28)
                        have hT2 := hT1.setKey (j + 1) (by rw [hkl]; exact hjl1) x.1
                        have hT3 := hT2.setKey j (by rw [List.length_set, hkl]; exact hjl2) y.1
                        have hT4 := hT3.setNum (j + 1) (.int .u64 (x.2 : Nat))
                        have hT5 := hT4.setNum j (.int .u64 (y.2 : Nat))
                        have hgl : gm < W3.heap.size := (hT0.kms.lt gm rfl).2
                        have R1 := hide (row_range hT0.kms (j + 1) y.1 (by rw [List.getElem?_map, HY.out]; rfl))
                        have R2 := hide (row_range hT1.kms j x.1 (by rw [List.getElem?_map, HX.out]; rfl))
                        have G2 := (row_setCells x.1.cells ((j + 1) * 16) _ _ hT1.kms).2
                        have R3 : Hid (((W3.alloc (.cells y.1.cells.toArray 28)).setCells gm ((j + 1) * 16) x.1.cells).rangeAt W3.heap.size 0 y.1.cells) := fun a v hv => G2.cell (range_new W3 28 y.1.cells a v hv) (by simp; omega)
                        have D0 := hide (there_new W3 28 z16 y.1.cells.toArray.size (by simp [Key.cells_length y.1]))
                        have D1 := hide (show (W3.alloc (.cells y.1.cells.toArray 28)).there gm ((j + 1) * 16) x.1.cells.toArray.size by
                          have := row_there hT1.kms (j + 1) (by rw [hkl]; exact hjl1)
                          simpa [Key.cells_length x.1] using this)
                        have D2 := hide (show ((W3.alloc (.cells y.1.cells.toArray 28)).setCells gm ((j + 1) * 16) x.1.cells).there gm (j * 16) y.1.cells.toArray.size by
                          have := row_there hT2.kms j (by rw [List.length_set, hkl]; exact hjl2)
                          simpa [Key.cells_length y.1] using this)
                        have Zx := hide (show (Ybad.prog.info? 28).map (·.size) = some x.1.cells.toArray.size by simpa using size28 x.1)
                        have Zy := hide (show (Ybad.prog.info? 28).map (·.size) = some y.1.cells.toArray.size by simpa using size28 y.1)
                        have BX := hide (box_cells W3 28 z16 y.1.cells (by rw [Key.cells_length y.1]; rfl))
                        have hnl : (numCells P').length = len := by simp [numCells, HPl.out]
                        have nx : (numCells P')[j]? = some (.int .u64 (x.2 : Nat)) := by simp [numCells, HX.out]
                        have ny : (numCells P')[j + 1]? = some (.int .u64 (y.2 : Nat)) := by simp [numCells, HY.out]
                        have C1 := (hT3.kns.cellAt (j + 1) (by omega)).trans ny
                        have C2 := (hT3.kns.cellAt j (by omega)).trans nx
                        have F1 := hT3.kns.frozenAt (j + 1)
                        have C3 := (hT4.kns.cellAt j (by omega)).trans ((List.getElem?_set_ne (by omega)).trans nx)
                        have F3 := hT4.kns.frozenAt j
                        have HT5 := hide hT5
                        clear hT0 hT1 hT2 hT3 hT4 hT5 hS3 hkl G2 hnl nx ny
                        go_wp2_with (first
                          | (refine wpList_load_mid rfl 28 (.tmp 102) rfl gm ((j + 1) * 16) rfl y.1.cells _ R1.out Ybad.underlying28 rfl (size28 y.1) ?_)
                          | (refine wpList_store_mid rfl 28 (.tmp 14) (.tmp 103) rfl W3.heap.size 0 y.1.cells.toArray rfl rfl D0.out Zy.out (all_oneCell_toArray (Key.one y.1)) ?_; rw [show (W3.alloc (.cells z16 28)).setCells W3.heap.size 0 y.1.cells.toArray.toList = W3.alloc (.cells y.1.cells.toArray 28) from BX.out])
                          | (refine wpList_load_mid rfl 28 (.tmp 109) rfl gm (j * 16) rfl x.1.cells _ R2.out Ybad.underlying28 rfl (size28 x.1) ?_)
                          | (refine wpList_store_mid rfl 28 (.tmp 111) (.tmp 110) rfl gm ((j + 1) * 16) x.1.cells.toArray rfl rfl D1.out Zx.out (all_oneCell_toArray (Key.one x.1)) ?_; rw [show x.1.cells.toArray.toList = x.1.cells from rfl])
                          | (refine wpList_load_mid rfl 28 (.tmp 14) rfl W3.heap.size 0 rfl y.1.cells _ R3.out Ybad.underlying28 rfl (size28 y.1) ?_)
                          | (refine wpList_store_mid rfl 28 (.tmp 116) (.tmp 115) rfl gm (j * 16) y.1.cells.toArray rfl rfl D2.out Zy.out (all_oneCell_toArray (Key.one y.1)) ?_; rw [show y.1.cells.toArray.toList = y.1.cells from rfl])
                          | go_in)
                        go_roundw
                        case rel =>
                          refine ⟨j, swapAt P' j x y, by go_num, by omega, ?_, HS.out.swap hj HX.out HY.out ?_⟩
                          · have := HT5.out
                            rw [← HPl.out] at this ⊢
                            exact this.swapped HPE.out HX.out HY.out
                          · simp [kn, HX.out, HY.out]; exact HL.out
                        case measure => simp [intOf]
                      · rw [decide_eq_false hl] at hless
                        have HL := hide hl
                        clear hl
                        go_wp2
                        refine wp_region_quiet_grown (by assumption) (by kernel_rfl) ?_
                        quiet_step (fail)
                        quiet_step (fail)
                        quiet_step (fail)
                        quiet_step (fail)
                        quiet_step (fail)
                        quiet_step (fail)
                        refine wpQuiet_load rfl 28 (.tmp 89) rfl gm ((j + 1) * 16) rfl y.1.cells _ HL1.out Ybad.underlying28 rfl (size28 y.1) ?_
                        quiet_step (fail)
                        quiet_step (fail)
                        quiet_step (fail)
                        quiet_step (fail)
                        refine wpQuiet_load rfl 28 (.tmp 94) rfl gm (j * 16) rfl x.1.cells _ HL2.out Ybad.underlying28 rfl (size28 x.1) ?_
                        quiet_step ((go_at_call 4; with_reducible exact hless _ _))
                        quiet_step (fail)
                        refine wpQuiet_nil ?_
                        rintro _ ⟨⟨nq, osq⟩, rfl⟩
                        have hS3 := hS.below (Gr.below (w1 := grow (wr.drewN nq) osq) ⟨nq, osq, rfl⟩)
                        clear HL1 HL2 hless hS
                        revert hS3
                        show _ → Exit.then _ _ _ _ (grow (wr.drewN nq) osq)
                        generalize grow (wr.drewN nq) osq = W3
                        intro hS3
                        go_wp2
                        go_meet
                        refine ⟨P', hS3, fun a b hab hb => HS.out.stop (Or.inr ?_) a b hab (by omega)⟩
                        have := HL.out
                        simp [kn, HX.out, HY.out]
                        omega
            case rest =>
              obtain ⟨P', hS', HS'⟩ := hcut
              clear hS HS
              go_wp2
              go_roundw
              case rel => exact ⟨i + 1, P', by go_num, by omega, Or.inl (by omega), hS', HS'⟩
              case measure => simp [intOf]; omega
          · go_wp2
            go_meet
            have hPl : P.length = len := by rw [hS.perm.length_eq]; exact HLen.out
            have e : P = sortP L := sorted_is hS.perm hS.map.nd fun a b hab hb => HS.out a b hab (by rw [hPl] at hb; omega)
            rw [← e]
            exact hS
  case rest =>
  have hS := hcut
  clear hcut HS1
  have hbsc : ∀ a, ab = some a → BytesAt wc a bs := fun a ha => ⟨fun j v hj => by
    have h1 := (HBS.out a ha).out j v hj
    have h2 := World.block_lt_of_cell? _ _ h1
    exact (hS.bel.cell h2).trans h1⟩
  have hcp := copy_all ab nb cb bs wc HB0.out HBL.out hnb hbsc
  clear hbsc
  have HS := hide hS
  have hsz := hS.bel.size
  clear hS
  go_upto_if 138 with (first
    | (go_at_call 5; refine hcp.mono ?_; rintro e w2 ⟨ao, rfl, hown2, hbel2, hnil2⟩)
    | go_in)
  have hS2 := HS.out.below hbel2
  have hown2' := row_base (B' := w.heap.size) hsz hown2
  clear hown2 hnil2 hcp HS hsz hbel2
  go_cut [16] (fun want W => S2 w W u5 (.slice am len cm) (.slice an len cn) N L (sortP L) ∧ W.ownsRow w.heap.size 5 1 want (nb + (wantText L).length) (Lib.byteCells (bs ++ wantText L)))
  case first =>
    as_aux_lemma =>
      by_cases h0 : len = 0
      · have hL : L = [] := List.length_eq_zero_iff.1 (HLen.out.trans h0)
        go_wp2
        go_meet
        refine ⟨hS2, ?_⟩
        simpa [wantText, hL] using hown2'
      · have hpos : 0 < len := by omega
        have hposz : (0 : Int) < (len : Int) := by omega
        obtain ⟨i0, hi, hz0, hz1, hz2⟩ := info_parts Ybad.info5
        have hsz2 := hS2.bel.size
        go_wp2_with (first
          | (at_builtin; refine Lib.wpList_append_own_string _ rfl _ _ 23 9 rfl w.heap.size 5 i0 Ybad.underlying23 Ybad.underlying9 hi hz0 hz1 hz2 _ _ _ rfl hown2' ⟨afterBytes.toArray⟩ rfl (by unfold maxLen; simp [afterBytes, ByteArray.size]; omega) (by simp [afterBytes, ByteArray.size]; omega) hsz2 ?_; intro v1 W1 hown1 hgrow1 _)
          | go_in)
        have hT0 : T5 w W1 u5 (.slice am len cm) (.slice an len cn) v1 N nb 0 L bs := by
          refine ⟨hS2.kp ⟨(Below.refl _ _).grown hgrow1 hsz2 (fun k hk => (hown2'.lt k hk).1), (Lib.OthersKept.refl _ _ _).grown hgrow1 (Lib.ownsRow_kind hown2')⟩, ?_⟩
          have : Lib.byteCells (bs ++ (afterBytes ++ vtextTo (sortP L) 0)) = Lib.byteCells bs ++ Lib.byteCells afterBytes := by simp [Lib.byteCells, vtextTo]
          rw [this]
          exact hown1
        have HT0 := hide hT0
        clear hT0 hown1 hgrow1 hown2' hS2 hsz2
        go_loopw [16, 17] (fun want vi W => ∃ i, vi = .int .i64 (i : Nat) ∧ i ≤ len ∧ T5 w W u5 (.slice am len cm) (.slice an len cn) want N nb i L bs) (fun _ vi _ => len - (intOf vi).toNat)
        case atStart => exact ⟨0, rfl, Nat.zero_le _, HT0.out⟩
        case round =>
          as_aux_lemma =>
            clear HT0
            obtain ⟨i, rfl, hil, hT⟩ := hrel
            have hu64 : ∀ p ∈ sortP L, p.2 < 18446744073709551616 := fun p hp => hT.s.map.u64 p (hT.s.perm.mem_iff.1 hp)
            have hvl := vtextTo_le (sortP L) hu64 i
            obtain ⟨m, hm⟩ : ∃ m, nb + 6 + (vtextTo (sortP L) i).length = m := ⟨_, rfl⟩
            have hml : m + 1000 ≤ 140737488355328 := by omega
            have HM := hide hm
            have hA : T6 w wr u5 (.slice am len cm) (.slice an len cn) u16 N m L (bs ++ (afterBytes ++ vtextTo (sortP L) i)) := ⟨hT.s, by rw [← hm]; exact hT.own⟩
            clear hT hvl hm
            by_cases hlt : i < len
            · obtain ⟨gm, rfl⟩ := HAM.out (by omega)
              obtain ⟨gn, rfl⟩ := HAN.out (by omega)
              obtain ⟨p, hp⟩ : ∃ p, (sortP L)[i]? = some p := ⟨_, List.getElem?_eq_getElem (by rw [sortP_length, HLen.out]; exact hlt)⟩
              have hpu := hu64 p (List.mem_of_getElem? hp)
              have HP := hide hp
              clear hu64 hp
              obtain ⟨tx, htx⟩ : ∃ tx, bs ++ (afterBytes ++ vtextTo (sortP L) i) = tx := ⟨_, rfl⟩
              have HTX := hide htx
              rw [htx] at hA
              clear htx
              go_upto_if 148 with fail
              go_cut [16] (fun want W => T6 w W u5 (.slice (some ⟨gm, 0, none⟩) len cm) (.slice (some ⟨gn, 0, none⟩) len cn) want N (m + (if 0 < i then [32] else [] : List UInt8).length) L (tx ++ (if 0 < i then [32] else [])))
              case first =>
                as_aux_lemma =>
                  by_cases hi0 : 0 < i
                  · have hi0z : (0 : Int) < (i : Int) := by omega
                    have hown := hA.own
                    go_wp2_with (first
                      | (at_builtin; refine wpList_append_own_at _ rfl _ (.tmp 150) 23 rfl w.heap.size 5 i0 (.int .u8 0) 1 1 Ybad.underlying23 hi hz0 hz1 hz2 rfl (by decide) _ _ _ rfl (hown.alloc _) ⟨wr.heap.size, 0, none⟩ 1 1 [.int .u8 32] rfl rfl (news1 _ _) (by simp [Value.oneCell']) ?c3 ?c4 ?c5 ?_)
                      | go_in)
                    case c3 => unfold maxLen; omega
                    case c4 => omega
                    case c5 => have := hA.s.bel.size; simp; omega
                    intro v3 w3 hown3 hgrow3 _ _
                    have hB := hA.byte 32 hown3 hgrow3
                    clear hown3 hgrow3 hown hA
                    go_wp2
                    go_meet
                    rw [if_pos hi0]
                    exact hB
                  · obtain rfl : i = 0 := by omega
                    go_wp2
                    go_meet
                    simpa using hA
              case rest =>
                clear hA
                have hA := hcut
                clear hcut
                obtain ⟨sp, hsp⟩ : ∃ sp : List UInt8, (if 0 < i then [32] else []) = sp := ⟨_, rfl⟩
                have hspl : sp.length ≤ 1 := by rw [← hsp]; split <;> simp
                rw [hsp] at hA
                have HSP := hide hsp
                clear hsp
                have hpl : (sortP L).length = len := by rw [sortP_length]; exact HLen.out
                have hks := hA.s.kns
                rw [hpl] at hks
                have hcn := (hks.cellAt i (by omega)).trans (show (numCells (sortP L))[i]? = some (.int .u64 (p.2 : Nat)) by simp [numCells, HP.out])
                have hdl : (Lib.decDigits p.2).length ≤ 20 := by rw [Lib.decDigits_length]; exact Lib.nDigits_le20 p.2 hpu
                have hd := dec_any w.heap.size _ p.2 hpu u16 _ wc hA.own hA.s.bel.size (by omega)
                have HA := hide hA
                have HPLe := hide hpl
                clear hA hks hpl
                go_wp2_with (first
                  | (go_at_call 6; refine hd.mono ?_; rintro e w3 ⟨v3, rfl, hown3, hk3⟩)
                  | (at_builtin; refine wpList_append_own_at _ rfl _ (.tmp 159) 23 rfl w.heap.size 5 i0 (.int .u8 0) 1 1 Ybad.underlying23 hi hz0 hz1 hz2 rfl (by decide) _ _ _ rfl (hown3.alloc _) ⟨w3.heap.size, 0, none⟩ 1 1 [.int .u8 64] rfl rfl (news1 _ _) (by simp [Value.oneCell']) ?c3 ?c4 ?c5 ?_)
                  | go_in)
                case c3 => unfold maxLen; omega
                case c4 => omega
                case c5 => have := HA.out.s.bel.size; have := hk3.below.size; simp; omega
                intro v4 w4 hown4 hgrow4 _ _
                have hB := HA.out.text hown3 hk3
                have hC := hB.byte 64 (by simpa [Lib.byteCells] using hown4) hgrow4
                clear hown4 hgrow4 hB hown3 hk3 hd HA hcn
                obtain ⟨dl, hdl'⟩ : ∃ dl, (Lib.decDigits p.2).length = dl := ⟨_, rfl⟩
                have HDL := hide hdl'
                rw [hdl'] at hC hdl
                clear hdl'
                have hkm := hC.s.kms
                rw [HPLe.out] at hkm
                have hrg := hide (row_range hkm i p.1 (by rw [List.getElem?_map, HP.out]; rfl))
                have hh := hex_any w.heap.size _ p.1 v4 _ w4 hC.own hC.s.bel.size (by omega)
                have HC := hide hC
                clear hkm hC
                go_wp2_with (first
                  | (refine wpList_load_mid rfl 28 (.tmp 164) rfl gm (i * 16) rfl p.1.cells _ hrg.out Ybad.underlying28 rfl (size28 p.1) ?_)
                  | (go_at_call 7; refine hh.mono ?_; rintro e w5 ⟨v5, rfl, hown5, hk5⟩)
                  | go_in)
                have hD := HC.out.text hown5 hk5
                clear hown5 hk5 hh HC hrg
                go_roundw
                case rel =>
                  refine ⟨i + 1, by go_num, by omega, hD.s, ?_⟩
                  have e1 : vtextTo (sortP L) (i + 1) = vtextTo (sortP L) i ++ (sp ++ (Lib.decDigits p.2 ++ (64 :: Lib.Hx.encode p.1.1))) := by
                    show vtextTo (sortP L) i ++ (_ ++ (match (sortP L)[i]? with | some p => idText p | none => [])) = _
                    rw [HP.out, HSP.out]
                    rfl
                  have e2 : bs ++ (afterBytes ++ vtextTo (sortP L) (i + 1)) = tx ++ sp ++ Lib.decDigits p.2 ++ [64] ++ Lib.Hx.encode p.1.1 := by
                    rw [e1, ← HTX.out]
                    simp
                  have hel := encode_len p.1.1
                  have e3 : nb + 6 + (vtextTo (sortP L) (i + 1)).length = m + sp.length + dl + 1 + 32 := by
                    rw [e1, ← HM.out, ← HDL.out]
                    simp [hel, p.1.2]
                    omega
                  rw [e2, e3]
                  exact hD.own
                case measure => simp [intOf]; omega
            · have HIL := hide (show i = len by omega)
              have hown := hA.own
              go_wp2_with (first
                | (at_builtin; refine wpList_append_own_at _ rfl _ (.tmp 168) 23 rfl w.heap.size 5 i0 (.int .u8 0) 1 1 Ybad.underlying23 hi hz0 hz1 hz2 rfl (by decide) _ _ _ rfl (hown.alloc _) ⟨wr.heap.size, 0, none⟩ 1 1 [.int .u8 10] rfl rfl (news1 _ _) (by simp [Value.oneCell']) ?c3 ?c4 ?c5 ?_)
                | go_in)
              case c3 => unfold maxLen; omega
              case c4 => omega
              case c5 => have := hA.s.bel.size; simp; omega
              intro v3 w3 hown3 hgrow3 _ _
              have hB := hA.byte 10 hown3 hgrow3
              clear hown3 hgrow3 hown hA
              go_wp2
              go_meet
              refine ⟨hB.s, ?_⟩
              have hLn : L ≠ [] := fun e => by have := HLen.out; rw [e] at this; simp at this; omega
              have e0 : wantText L = afterBytes ++ (vtextTo (sortP L) i ++ [10]) := by
                unfold wantText fullText
                rw [if_neg hLn, HLen.out, HIL.out]
              have e1 : bs ++ wantText L = bs ++ (afterBytes ++ vtextTo (sortP L) i) ++ [10] := by rw [e0]; simp
              have hal : afterBytes.length = 6 := rfl
              have e2 : nb + (wantText L).length = m + 1 := by
                rw [e0, ← HM.out]
                simp [hal]
                omega
              rw [e1, e2]
              exact hB.own
  case rest =>
  obtain ⟨hS, hwant⟩ := hcut
  clear hS2 hown2'
  obtain ⟨mo, rfl⟩ : ∃ mo, u5 = .map mo := by
    rcases hS.map.out with ⟨h, _⟩ | ⟨mb, h, _⟩
    · exact ⟨_, h⟩
    · exact ⟨_, h⟩
  have hbsc : ∀ a, ab = some a → BytesAt wc a bs := fun a ha => ⟨fun j v hj => by
    have h1 := (HBS.out a ha).out j v hj
    have h2 := World.block_lt_of_cell? _ _ h1
    exact (hS.bel.cell h2).trans h1⟩
  have hcp := copy_all ab nb cb bs wc HB0.out HBL.out hnb hbsc
  clear hbsc
  have HS := hide hS
  have HW := hide hwant
  have hsz := hS.bel.size
  clear hS hwant
  go_upto_region 49 with (first
    | (go_at_call 5; refine hcp.mono ?_; rintro e w3 ⟨ac, rfl, hown3, hbel3, hnil3⟩)
    | go_in)
  have hE := E1.start HS.out HW.out hbel3 hown3
  have HNIL := hide hnil3
  clear hown3 hbel3 hnil3 HS HW hsz hcp
  revert hE
  generalize w3.heap.size = cb3
  generalize w3.alloc _ = W4
  intro hE
  have htb : Lib.TabBelow Ybad.prog W4.heap.size W4 powName .u64 Lib.pow10Tab := fun w' hb' => (Lib.tabBelow_of_tabIs HTAB.out) w' (hE.s.bel.trans (Below.lower hb' hE.s.bel.size))
  have hcA := after_all w.heap.size nb N cb3 (chg mo) L (.map mo) ac _ W4 hE.s.map hN hE.bc hE.s.bel.size (by omega) htb hE.box rfl
  have HE := hide hE
  clear htb hE
  go_upto_region 50 with (first
    | (go_at_call 8; refine hcA.mono ?_; rintro e w5 ⟨got, rfl, hgot, hbel5, hgn⟩)
    | go_in)
  have hE5 := HE.out.below hbel5
  obtain ⟨ag, cg, rfl, hgl, hgc⟩ := row_bytes (l := bs ++ wantText L) (by simpa [Lib.byteCells] using hgot)
  obtain ⟨aw, cw, rfl, hwl, hwc⟩ := row_bytes hE5.want
  have hwtl := wantText_le hE5.s.map.nd hE5.s.map.u64
  have hLN := hE5.s.map.len_le
  have hev := eq_any (bs ++ wantText L) _ ag aw cg cw w5 hgl (by omega) hgc hwc
  have HE5 := hide hE5
  have HG := hide hgn
  clear hgl hgc hwl hwc hgot hgn HE hbel5 hcA hE5
  go_upto_region 52 with (first
    | (go_at_call 9; refine hev.mono ?_; rintro e w6 ⟨rfl, q6, hw6⟩; have HW6 := hide hw6; clear hw6)
    | go_in)
  have hE6 := HE5.out.below (W' := w6) (by rw [HW6.out]; exact ⟨rfl, rfl, rfl, Nat.le_refl _, fun _ _ => rfl⟩)
  have hqe := fun (wx : World) (a : Option Addr) (n c : Nat) => Lib.run_eql_slice_nil (P := Ybad.prog) wx 23 5 a n c 0 0 Ybad.underlying23
  clear HW6 HE5 hev
  go_cut [191] (fun v W => v = .bool false ∧ w6 = W)
  case first =>
    as_aux_lemma =>
      by_cases h0 : len = 0
      · have hL : L = [] := List.length_eq_zero_iff.1 (HLen.out.trans h0)
        have e0 := HG.out hL
        simp only [Value.slice.injEq] at e0
        obtain ⟨rfl, _, _⟩ := e0
        have hzz : ag.isNone = ab.isNone := isNone_same HNIL.out
        go_wp2
        go_meet
        exact ⟨rfl, rfl⟩
      · have h0z : ¬ ((len : Int) = 0) := by omega
        go_wp2
        go_meet
        exact ⟨rfl, rfl⟩
  case rest =>
  obtain ⟨rfl, rfl⟩ := hcut
  clear hqe HG
  obtain ⟨hcl, hcc⟩ := row_bytes2 hE6.bc
  have hbb := bytes_cells HB0.out HBL.out HBS.out hE6.s.bel
  have hnb2 : nb < 1099511627776 := Nat.lt_of_le_of_lt hnb (by decide)
  have hev := eq_any bs nb ac ab nb cb w6 hcl hnb2 hcc hbb
  clear hnb2
  have HE6 := hide hE6
  clear hcl hcc hbb hE6
  go_upto_region 56 with (first
    | (go_at_call 9; refine hev.mono ?_; rintro e w7 ⟨rfl, q7, hw7⟩; have HW7 := hide hw7; clear hw7)
    | go_in)
  have hE7 := HE6.out.below (W' := w7) (by rw [HW7.out]; exact ⟨rfl, rfl, rfl, Nat.le_refl _, fun _ _ => rfl⟩)
  clear HW7 HE6 hev
  have hc7 := cell_block (off := 18) (v := .map mo) hE7.box rfl
  go_cut [203] (fun v W => v = .bool false ∧ w7 = W)
  case first =>
    as_aux_lemma =>
      rcases hE7.s.map.out with ⟨h, hL⟩ | ⟨mb, h, hM⟩
      · cases h
        have h0 : len = 0 := by rw [← HLen.out, hL]; rfl
        go_wp2
        go_meet
        exact ⟨rfl, rfl⟩
      · cases h
        obtain ⟨n0, D, hn0, hmap, hR⟩ := hM.ex
        have hsz : Maps.size D = len := (Reads.size hmap hR).trans HLen.out
        clear hM hR
        go_wp2_with (first
          | (at_len; refine wpList_len_own _ rfl _ 25 rfl 32 29 Ybad.underlying25 _ mb n0 _ rfl hmap ?_)
          | go_in)
        go_meet
        exact ⟨rfl, rfl⟩
  case rest =>
  obtain ⟨rfl, rfl⟩ := hcut
  go_wp2
  go_loopw [21, 22, 23] (fun vi _ _ W => ∃ i, vi = .int .i64 (i : Nat) ∧ i ≤ len ∧ E1 w W mo (.slice am len cm) (.slice an len cn) (.slice aw (nb + (wantText L).length) cw) (.slice ac nb nb) N cb3 nb L bs) (fun vi _ _ _ => len - (intOf vi).toNat)
  case atStart => exact ⟨0, rfl, Nat.zero_le _, hE7⟩
  case round =>
    as_aux_lemma =>
      clear hE7 hc7
      obtain ⟨i, rfl, hil, hE⟩ := hrel
      by_cases hlt : i < len
      · obtain ⟨gm, rfl⟩ := HAM.out (by omega)
        obtain ⟨gn, rfl⟩ := HAN.out (by omega)
        have hpl : (sortP L).length = len := by rw [sortP_length]; exact HLen.out
        obtain ⟨p, hp⟩ : ∃ p, (sortP L)[i]? = some p := ⟨_, List.getElem?_eq_getElem (by rw [hpl]; exact hlt)⟩
        have hpL : p ∈ L := hE.s.perm.mem_iff.1 (List.mem_of_getElem? hp)
        obtain ⟨mb, rfl, hM⟩ : ∃ mb, mo = some mb ∧ MapIs wr mb N L := by
          rcases hE.s.map.out with ⟨_, h⟩ | ⟨mb, h, hM⟩
          · rw [h] at hpL; cases hpL
          · injection h with h
            exact ⟨mb, h, hM⟩
        have hks := hE.s.kms
        have hns := hE.s.kns
        rw [hpl] at hks hns
        have hr1 := row_range hks i p.1 (by rw [List.getElem?_map, hp]; rfl)
        have HL1 : Hid (∀ wz, (∃ nz, wz = wr.drewN nz) → wz.rangeAt gm (i * 16) p.1.cells) := fun wz ⟨nz, hz⟩ => by rw [hz]; exact hr1
        have hlook := fun nz => (hM.block (w' := wr.drewN nz) rfl).look_ok hpL
        have hc := cell_block (off := 18) (v := .map (some mb)) hE.box rfl
        have hcn := (hns.cellAt i (by omega)).trans (show (numCells (sortP L))[i]? = some (.int .u64 (p.2 : Nat)) by simp [numCells, hp])
        clear hks hns hr1 hM hp hpL hpl
        go_wp2
        refine wp_region_quiet_lit (by kernel_rfl) (by kernel_rfl) ?_
        quiet_step (fail)
        quiet_step (fail)
        quiet_step (fail)
        quiet_step (fail)
        quiet_step (fail)
        quiet_step (fail)
        quiet_step (fail)
        refine wpQuiet_load rfl 28 (.tmp 217) rfl gm (i * 16) rfl p.1.cells _ HL1.out Ybad.underlying28 rfl (size28 p.1) ?_
        quiet_step (fail)
        quiet_step (fail)
        quiet_step (fail)
        quiet_step (fail)
        quiet_step (fail)
        quiet_step (fail)
        refine wpQuiet_nil ?_
        rintro _ ⟨nq, rfl⟩
        have hE3 := hE.below (W' := wr.drewN nq) ⟨rfl, rfl, rfl, Nat.le_refl _, fun _ _ => rfl⟩
        have hcn3 : (wr.drewN nq).cell? ⟨gn, i, none⟩ = some (.int .u64 (p.2 : Nat)) := hcn
        clear hcn hc hlook HL1 hE
        revert hE3 hcn3
        generalize wr.drewN nq = W3
        intro hE3 hcn3
        go_wp2
        go_roundw
        case rel => exact ⟨i + 1, by go_num, by omega, hE3⟩
        case measure => simp [intOf]; omega
      · go_wp2
        go_ret
        exact ⟨rfl, hE.s.bel⟩
end Go.Proofs.YbulkedvmDoor
