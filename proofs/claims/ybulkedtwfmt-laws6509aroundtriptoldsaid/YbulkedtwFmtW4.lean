import Derived.Test.YbulkedtwFmtDat
namespace Go.Proofs.YbulkedtwFmt
open Go Go.RowKit

theorem Ybaf.info39 : (Ybaf.prog.info? 39).map (fun i => (i.zero, i.size, i.bytes)) = some (some (.agg #[.int .i64 0, .string ⟨#[]⟩, .string ⟨#[]⟩]), 3, 40) := by kernel_rfl

/-- THE LOOP OF clusterOf: the two boxes of the call, what has been gathered. -/
structure ClAt (w W : World) (rv : Value) (M : List Mem) : Prop where
  bel : Below w.heap.size w W
  res : W.heap[w.heap.size]? = some (.cells #[.slice none 0 0] 31 (0, 0))
  cc : W.heap[w.heap.size + 1]? = some (.cells #[rv] 31 (0, 0))
  own : W.ownsRow (w.heap.size + 2) 39 3 rv (repN M) (repCells M)
  nil : repN M = 0 → rv = .slice none 0 0
  form : ∃ ao n c, rv = .slice ao n c

theorem ClAt.grown {w W W' : World} {rv : Value} {M : List Mem} {d : Nat} (h : ClAt w W rv M) (hg : W.grownBy W' (some d)) (hd : w.heap.size + 2 ≤ d) (hne : rv.ownBlock ≠ some d) : ClAt w W' rv M := by
  have h1 := lt_of_block h.res
  have h2 := lt_of_block h.cc
  refine ⟨h.bel.grown hg (by omega) (fun k hk => by cases hk; omega), ?_, ?_, h.own.kept hg (Or.inr hne), h.nil, h.form⟩
  · rw [hg.block _ h1 (by intro e; cases e; omega)]; exact h.res
  · rw [hg.block _ h2 (by intro e; cases e; omega)]; exact h.cc

theorem ClAt.alloc {w W : World} {rv : Value} {M : List Mem} (h : ClAt w W rv M) (o : Obj) : ClAt w (W.alloc o) rv M := by
  have h1 := lt_of_block h.res
  have h2 := lt_of_block h.cc
  refine ⟨h.bel.alloc (by omega) _, ?_, ?_, h.own.alloc _, h.nil, h.form⟩
  · rw [Below.heap_alloc _ _ _ h1]; exact h.res
  · rw [Below.heap_alloc _ _ _ h2]; exact h.cc

theorem dec_apart {W : World} {B n d : Nat} {rv bv ev : Value} {xs : List Value} (h : W.ownsRow B 39 3 rv n xs) (hd : DecIs W d bv ev) : rv.ownBlock ≠ some d := by
  intro e
  rcases h.2 with ⟨rfl, _⟩ | ⟨g, cap, cur, rfl, _, hg, _⟩
  · cases e
  · simp [Value.ownBlock] at e
    subst e
    rw [hd.blk] at hg
    simp at hg

theorem ClAt.dec {w wr : World} {rv : Value} {M : List Mem} (hC : ClAt w wr rv M) (O : Obj) (bv ev : Value) :
    ClAt w ((wr.alloc O).alloc (.cells #[bv, ev] 51)) rv M ∧ DecIs ((wr.alloc O).alloc (.cells #[bv, ev] 51)) (wr.heap.size + 1) bv ev := by
  refine ⟨(hC.alloc _).alloc _, ⟨?_⟩⟩
  have := heap_alloc_new (wr.alloc O) (.cells #[bv, ev] 51)
  simpa using this

theorem bytes_ok' (n d g o c : Nat) (l rest : List UInt8) (hn : (encB l ++ rest).length = n) (w : World) (hD : DecIs w d (.slice (some ⟨g, o, none⟩) n c) .nilIface) (hgd : g ≠ d)
    (h3 : n ≤ c) (h4 : c ≤ 9223372036854775807) (h5 : l.length ≤ 1048576)
    (hcell : ∀ j (hj : j < (encB l ++ rest).length), w.cell? ⟨g, o + j, none⟩ = some (.int .u8 ((encB l ++ rest)[j]).toNat)) :
    Calls Ybaf.prog 10 #[.pointer (some ⟨d, 0, none⟩)] w fun e w' => ∃ a1 ao c2, e = .returned (.slice (some a1) l.length l.length) ∧ BytesOk w d l rest a1 w' ao c2 := by
  subst hn
  exact bytes_ok d g o c l rest w hD hgd h3 h4 h5 hcell

theorem boxed (wr : World) (cs : Array Value) (bv ev : Value) :
    ((wr.alloc (.cells cs 27)).alloc (.cells #[bv, ev] 51)).heap[wr.heap.size]? = some (.cells cs 27 (0, 0)) := by
  rw [Below.heap_alloc _ _ _ (by simp)]
  exact heap_alloc_new wr _

theorem ClAt.take {w W W' : World} {rv iv : Value} {M : List Mem} {k g cap : Nat} {id : Int} {p q : ByteArray} (h : ClAt w W rv (M.take k)) (hm : M[k]? = some ⟨id, some (p, q), iv⟩)
    (hown : W'.ownsRow (w.heap.size + 2) 39 3 (.slice (some ⟨g, 0, none⟩) (repN (M.take k) + 1) cap) (repN (M.take k) + 1) (repCells (M.take k) ++ [.int .i64 id, .string p, .string q]))
    (hg : W.grownBy W' rv.ownBlock) : ClAt w (W'.setCell ⟨w.heap.size + 1, 0, none⟩ (.slice (some ⟨g, 0, none⟩) (repN (M.take k) + 1) cap)) (.slice (some ⟨g, 0, none⟩) (repN (M.take k) + 1) cap) (M.take (k + 1)) := by
  have e : M.take (k + 1) = M.take k ++ [⟨id, some (p, q), iv⟩] := by rw [List.take_add_one, hm]; rfl
  have h1 := lt_of_block h.res
  have h2 := lt_of_block h.cc
  have hlo : ∀ k, rv.ownBlock = some k → w.heap.size + 2 ≤ k := fun k hk => (h.own.lt k hk).1
  rw [e]
  refine ⟨(h.bel.grown hg (by omega) (fun k hk => by have := hlo k hk; omega)).setCell (by show w.heap.size ≤ w.heap.size + 1; omega) _, ?_, ?_, ?_, ?_, ⟨_, _, _, rfl⟩⟩
  · rw [Below.heap_setCell _ _ _ _ (by show w.heap.size ≠ w.heap.size + 1; omega), hg.block _ h1 (by intro e; have := hlo _ e.symm; omega)]
    exact h.res
  · have : W'.heap[w.heap.size + 1]? = some (.cells #[rv] 31 (0, 0)) := by
      rw [hg.block _ h2 (by intro e; have := hlo _ e.symm; omega)]
      exact h.cc
    exact one_setCell this
  · rw [repN_snoc_some, repCells_snoc]
    exact ownsRow_setCell_below hown (by show w.heap.size + 1 < w.heap.size + 2; omega) _
  · rw [repN_snoc_some]
    intro h
    omega

theorem ClAt.skip {w W : World} {rv iv : Value} {M : List Mem} {k : Nat} {id : Int} (h : ClAt w W rv (M.take k)) (hm : M[k]? = some ⟨id, none, iv⟩) : ClAt w W rv (M.take (k + 1)) := by
  have e : M.take (k + 1) = M.take k ++ [⟨id, none, iv⟩] := by rw [List.take_add_one, hm]; rfl
  rw [e]
  refine ⟨h.bel, h.res, h.cc, ?_, ?_, h.form⟩
  · rw [repN_snoc_none, repCells_snoc]
    simpa [repOf] using h.own
  · rw [repN_snoc_none]; exact h.nil

set_option maxHeartbeats 1000000 in
theorem cluster_any (v : Value) (B : Nat) (M : List Mem) (gu : TypeId) (gv : Value) (w : World) (hms : MsAt w B v M) (hlen : M.length ≤ 16384) (hg0 : w.cell? ⟨0, 0, none⟩ = some (.iface gu gv))
    (hsz : ∀ m ∈ M, ∀ p c, m.pc = some (p, c) → p.size ≤ 1048576 ∧ c.size ≤ 1048576) (hid : ∀ m ∈ M, m.pc = none → m.v = .slice none 0 0) :
    Calls Ybaf.prog 6 #[v] w fun e w' => ∃ rv, e = .returned (.agg #[rv]) ∧ w'.ownsRow w.heap.size 39 3 rv (repN M) (repCells M) ∧ (repN M = 0 → rv = .slice none 0 0) ∧ Below w.heap.size w w' := by
  obtain ⟨i0, hi, hz0, hz1, hz2⟩ := info_parts Ybaf.info39
  obtain ⟨ao, c, hv, hao⟩ : ∃ ao c, v = .slice ao M.length c ∧ (0 < M.length → ∃ g, ao = some ⟨g, 0, none⟩ ∧ g < w.heap.size) := by
    rcases hms.form with ⟨h1, rfl⟩ | ⟨g, cap, h1, _, h2, _⟩
    · exact ⟨_, _, h1, fun h => absurd h (by simp)⟩
    · exact ⟨_, _, h1, fun _ => ⟨g, rfl, h2⟩⟩
  subst hv
  obtain ⟨L, hL⟩ : ∃ L, M.length = L := ⟨_, rfl⟩
  have HL : Hid (M.length = L) := hL
  rw [hL] at hlen hao
  rw [hL]
  clear hL
  go_enter Ybaf.func6, Ybaf.ntmps6
  go_wp2
  go_loopw [11] (fun i W => ∃ (k : Nat) (rv : Value), i = .int .i64 k ∧ k ≤ L ∧ ClAt w W rv (M.take k)) (fun i _ => L - (intOf i).toNat)
  case atStart =>
    refine ⟨0, .slice none 0 0, rfl, Nat.zero_le _, ?_⟩
    refine ⟨((Below.refl _ _).alloc (Nat.le_refl _) _).alloc (by simp) _, ?_, ?_, by simpa [repN, repCells] using World.ownsRow_nil _ _ _ _, fun _ => rfl, ⟨_, _, _, rfl⟩⟩
    · rw [Below.heap_alloc _ _ _ (by simp)]; exact heap_alloc_new w _
    · have := heap_alloc_new (w.alloc (.cells #[.slice none 0 0] 31)) (.cells #[.slice none 0 0] 31)
      simpa using this
  case round =>
    obtain ⟨k, rv, rfl, hk, hC⟩ := hrel
    by_cases hlt : k < L
    · obtain ⟨g, rfl, hgl⟩ := hao (by omega)
      have hm : ∃ m, M[k]? = some m := ⟨_, List.getElem?_eq_getElem (by rw [HL.out]; exact hlt)⟩
      obtain ⟨⟨id, pc, iv⟩, hm⟩ := hm
      have hmem : (⟨id, pc, iv⟩ : Mem) ∈ M := List.mem_of_getElem? hm
      obtain ⟨r0, r1⟩ := hms.read k _ hm
      have r0' : wr.cell? ⟨g, k * 2, none⟩ = some (.int .i64 id) := (bcl hC.bel _ _ hgl).trans r0
      have r1' : wr.cell? ⟨g, k * 2 + 1, none⟩ = some iv := (bcl hC.bel _ _ hgl).trans r1
      have hinf := hms.info _ hmem
      have hzr := hC.bel.size
      have hzr2 := lt_of_block hC.cc
      clear r0 r1
      cases pc with
      | none =>
        have hiv : iv = .slice none 0 0 := hid _ hmem rfl
        subst hiv
        go_wp2_with (first | (go_at_call 9; go_in) | fail)
        obtain ⟨hC1, hD1⟩ := hC.dec (.cells #[.int .i64 id, .slice none 0 0] 27) (.slice none 0 0) .nilIface
        have h0 := World.block_lt_of_cell? _ _ hg0
        have hg1 := (bcl hC1.bel 0 0 h0).trans hg0
        refine (bytes_bad _ gv gu _ hD1 hg1 (by omega)).mono ?_
        rintro e W1 ⟨rfl, ev, hD2, hG1⟩
        have hC2 : ClAt w W1 rv (M.take k) := hC1.grown hG1 (by omega) (dec_apart hC1.own hD1)
        have hg2 := (bcl hC2.bel 0 0 h0).trans hg0
        clear hC1 hD1 hg1 hG1 r0' r1'
        go_wp2_with fail
        refine (bytes_bad2 _ gu 64 gv ev _ hD2 hg2).mono ?_
        rintro e W2 ⟨rfl, hW⟩
        rw [hW]
        clear hW
        go_wp2_with fail
        refine (finish_bad _ 64 _ ev _ hD2).mono ?_
        rintro e W3 ⟨rfl, hW⟩
        rw [hW]
        clear hW
        go_wp2
        go_roundw
        case rel => exact ⟨k + 1, rv, by go_num, by omega, hC2.skip hm⟩
        case measure => simp [intOf]; omega
      | some pq =>
        obtain ⟨p, q⟩ := pq
        obtain ⟨gi, icap, hiv, hgi, hil, hic, hib⟩ := infoBytes (p := p) (c := q) hinf
        have hiv' : iv = .slice (some ⟨gi, 0, none⟩) (info p.data.toList q.data.toList).length icap := hiv
        subst hiv'
        have hib' : Hid _ := hib
        clear hib hinf hiv
        obtain ⟨hps, hqs⟩ := hsz _ hmem p q rfl
        obtain ⟨nI, hnI⟩ : ∃ n, (info p.data.toList q.data.toList).length = n := ⟨_, rfl⟩
        have HnI : Hid ((encB p.data.toList ++ encB q.data.toList).length = nI) := hnI
        rw [hnI] at hil r1'
        rw [hnI] at hm hmem
        clear hnI
        go_wp2_with (first | (go_at_call 9; go_in) | fail)
        obtain ⟨hC1, hD1⟩ := hC.dec (.cells #[.int .i64 id, .slice (some ⟨gi, 0, none⟩) nI icap] 27) (.slice (some ⟨gi, 0, none⟩) nI icap) .nilIface
        have hR1 := boxed wr #[.int .i64 id, .slice (some ⟨gi, 0, none⟩) nI icap] (.slice (some ⟨gi, 0, none⟩) nI icap) .nilIface
        have hcell1 : ∀ (W : World), ClAt w W rv (M.take k) → ∀ j (hj : j < (encB p.data.toList ++ encB q.data.toList).length), W.cell? ⟨gi, 0 + j, none⟩ = some (.int .u8 ((encB p.data.toList ++ encB q.data.toList)[j]).toNat) := by
          intro W hW j hj
          rw [Nat.zero_add]
          exact (bcl hW.bel _ _ hgi).trans (hib'.out j hj)
        refine (bytes_ok' nI _ gi 0 icap p.data.toList (encB q.data.toList) HnI.out _ hD1 (by omega) hil hic (by rw [Array.length_toList]; exact hps) (hcell1 _ hC1)).mono ?_
        rintro e W1 ⟨a1, ao1, c1, rfl, hB1⟩
        have hC2 : ClAt w W1 rv (M.take k) := hC1.grown hB1.grown (by omega) (dec_apart hC1.own hD1)
        have hR2 : W1.heap[wr.heap.size]? = some (.cells #[.int .i64 id, .slice (some ⟨gi, 0, none⟩) nI icap] 27 (0, 0)) := by
          rw [hB1.grown.block _ (lt_of_block hR1) (by simp)]; exact hR1
        obtain ⟨g2, o2, hao2, hg2d, hcell2⟩ := hB1.left (encB_ne _)
        subst hao2
        clear hC1 hD1 hR1 hcell1 r0' r1' hib'
        go_wp2_with fail
        have hD2 := hB1.dec
        have hcap2 := hB1.cap
        refine (bytes_ok _ g2 o2 c1 q.data.toList [] W1 (by rw [List.append_nil]; exact hD2) hg2d (by rw [List.append_nil]; exact hcap2.1) hcap2.2 (by rw [Array.length_toList]; exact hqs) (by simpa using hcell2)).mono ?_
        rintro e W2 ⟨a2, ao2, c2, rfl, hB2⟩
        have hC3 : ClAt w W2 rv (M.take k) := hC2.grown hB2.grown (by omega) (dec_apart hC2.own hD2)
        have hR3 : W2.heap[wr.heap.size]? = some (.cells #[.int .i64 id, .slice (some ⟨gi, 0, none⟩) nI icap] 27 (0, 0)) := by
          rw [hB2.grown.block _ (lt_of_block hR2) (by simp)]; exact hR2
        have hD3 := hB2.dec
        have hgot1 : ∀ j (hj : j < p.data.toList.length), W2.cell? (a1.add j) = some (.int .u8 (p.data.toList[j]).toNat) := hB1.got W2 hB2.grown
        have hcv1 : (convert 25 9 (.slice (some a1) p.size p.size)).run Ybaf.prog W2 = .ok (.string p) W2 := run_convert_bytes_back (P := Ybaf.prog) W2 25 9 5 a1 p.data.toList.length p.data.toList Ybaf.underlying25 Ybaf.underlying5 Ybaf.underlying9 hgot1
        have hcv2 : (convert 25 9 (.slice (some a2) q.size q.size)).run Ybaf.prog W2 = .ok (.string q) W2 := run_convert_bytes_back (P := Ybaf.prog) W2 25 9 5 a2 q.data.toList.length q.data.toList Ybaf.underlying25 Ybaf.underlying5 Ybaf.underlying9 (hB2.got W2 ⟨rfl, rfl, rfl, Nat.le_refl _, fun _ _ _ => rfl⟩)
        clear hC2 hR2 hcell2 hB1 hB2 hD2
        go_wp2_with fail
        refine (finish_ok _ _ _ _ hD3).mono ?_
        rintro e W3 ⟨rfl, hW⟩
        rw [hW]
        clear hW
        have e0 : W2.cell? ⟨wr.heap.size, 0, none⟩ = some (.int .i64 id) := by rw [cell_of_row _ _ 0 _ _ _ hR3]; rfl
        have e1 := cell_of_one hC3.cc
        have hrl := repN_le (M.take k)
        have hrl2 : (M.take k).length ≤ k := List.length_take_le _ _
        have hzz := hC3.bel.size
        have hzz2 := lt_of_block hC3.cc
        obtain ⟨ra, rn, rc, hrv⟩ := hC3.form
        subst hrv
        go_wp2_with (at_builtin; (refine wpList_append_lies _ rfl (.tmp 26) (.tmp 34) 29 rfl (w.heap.size + 2) 39 i0 _ 3 40 Ybaf.underlying29 hi hz0 hz1 hz2 rfl (by decide) (.slice ra rn rc) _ _ rfl (hC3.own.alloc _) ⟨W2.heap.size, 0, none⟩ 1 1 [.int .i64 id, .string p, .string q] rfl rfl ?c1 ?c2 (by decide) ?c3 ?c4 ?c5 (W2.heap.size + 1) ?c6 ?_))
        case c1 => exact World.news_of_block (heap_alloc_new W2 _)
        case c2 => intro u hu; simp at hu; rcases hu with rfl | rfl | rfl <;> rfl
        case c3 => unfold maxLen; omega
        case c4 => omega
        case c5 => simp; omega
        case c6 => simp
        intro g' cap' W4 hown4 hgrow4 hat hlt4
        have hC5 := (hC3.alloc (.cells #[.int .i64 id, .string p, .string q] 39)).take hm hown4 hgrow4
        have f1 : W4.cell? ⟨w.heap.size + 1, 0, none⟩ = some (.slice ra rn rc) := by
          refine hgrow4.cell (cell_al e1 _) ?_
          intro e
          have := (hC3.own.lt _ e.symm).1
          simp at this
        have f2 : W4.frozen? ⟨w.heap.size + 1, 0, none⟩ = false := by
          rw [hgrow4.frozen_far _ (by simp; omega) (by intro e; have := (hC3.own.lt _ e.symm).1; simp at this)]
          exact frozen_al e1 (free_of_one hC3.cc) _
        clear hown4 hgrow4 hat
        go_wp2
        go_roundw
        case rel => exact ⟨k + 1, _, by go_num, by omega, hC5⟩
        case measure => simp [intOf]; omega
    · have e1 := cell_of_one hC.cc
      have e2 := cell_of_one hC.res
      have e3 := free_of_one hC.res
      obtain ⟨ra, rn, rc, hrv⟩ := hC.form
      subst hrv
      go_wp2
      refine bodyPost_ret (v := .agg #[.slice ra rn rc]) (by simp [results, Ybaf.results6, go_sem, e2]) rfl ⟨_, rfl, ?_, ?_, ?_⟩
      · have e4 : M.take k = M := List.take_of_length_le (by rw [HL.out]; omega)
        have := hC.own
        rw [e4] at this
        exact row_base (by omega) (ownsRow_setCell_below this (by show w.heap.size < w.heap.size + 2; omega) _)
      · have e4 : M.take k = M := List.take_of_length_le (by rw [HL.out]; omega)
        have := hC.nil
        rw [e4] at this
        exact this
      · exact hC.bel.setCell (Nat.le_refl _) _
end Go.Proofs.YbulkedtwFmt
