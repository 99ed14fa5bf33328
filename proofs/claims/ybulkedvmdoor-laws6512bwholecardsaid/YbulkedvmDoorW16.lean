import Derived.Test.YbulkedvmDoorW15
namespace Go.Proofs.YbulkedvmDoor
open Go Go.RowKit Go.Lib Go.Maps Go.Sort
set_option maxRecDepth 100000
set_option linter.unusedSimpArgs false
attribute [local go_sem ↓] Go.wp_at_zero Go.wp_at_succ

theorem MapIs.len_le {w : World} {mb N : Nat} {L : List KN} (h : MapIs w mb N L) : L.length ≤ N := by
  obtain ⟨n, D, h1, h2, h3⟩ := h.ex
  have e1 := Reads.size h2 h3
  have e2 := h2.size_le
  omega

/-- THE LOOP OF Vector.AppendTo. -/
structure VecAt (w : World) (B n mb N g cap : Nat) (L : List KN) (xs : List Value) (i : Nat) (vb : Value) (W : World) : Prop where
  own : W.ownsRow B 5 1 vb (n + (vtextTo (sortP L) i).length) (xs ++ Lib.byteCells (vtextTo (sortP L) i))
  kp : Kp B w W
  map : MapIs W mb N L
  keys : W.ownsRow w.heap.size 32 16 (.slice (some ⟨g, 0, none⟩) L.length cap) L.length (keyCells (sortKeys (L.map (·.1))))

theorem VecAt.range {w W : World} {B n mb N g cap : Nat} {L : List KN} {xs : List Value} {i : Nat} {vb : Value} (h : VecAt w B n mb N g cap L xs i vb W) (hi : i < L.length) (k : Key) (hk : (sortKeys (L.map (·.1)))[i]? = some k) : W.rangeAt g (i * 16) k.cells := by
  intro j v hj
  have hjl : j < 16 := by
    have := (List.getElem?_eq_some_iff.1 hj).1
    rw [k.cells_length] at this
    exact this
  rw [h.keys.cellAt (i * 16 + j) (by omega), keyCells_at _ i j k hk hjl]
  exact hj

theorem fold_from (s : Nat) : ∀ (vs : List Value) (o : Nat) (C : Array Value), List.foldl (fun (cs : Array Value) (y : Value × Nat) => cs.setIfInBounds (s + y.2) y.1) C (vs.zipIdx o) = setMany C (s + o) vs
  | [], _, _ => rfl
  | v :: r, o, C => by
    rw [List.zipIdx_cons, List.foldl_cons, fold_from s r (o + 1)]
    rfl
theorem fold_build (k : Key) (v : Value) : List.foldl (fun (cs : Array Value) (y : Value × Nat) => cs.setIfInBounds (1 + y.2) y.1) #[v, .int .u8 0, .int .u8 0, .int .u8 0, .int .u8 0, .int .u8 0, .int .u8 0, .int .u8 0, .int .u8 0, .int .u8 0, .int .u8 0, .int .u8 0, .int .u8 0, .int .u8 0, .int .u8 0, .int .u8 0, .int .u8 0] (Key.cells k).zipIdx = (v :: Key.cells k).toArray := by
  have hl := Key.cells_length k
  rw [fold_from]
  apply ext_get!
  · simp [hl]
  · intro t ht
    have ht' : t < 17 := by simpa using ht
    rw [get_setMany _ _ _ _ (by simpa using ht)]
    by_cases h0 : t = 0
    · subst h0
      simp
    · obtain ⟨j, rfl⟩ : ∃ j, t = j + 1 := ⟨t - 1, by omega⟩
      rw [if_pos ⟨by omega, by rw [hl]; omega⟩, show j + 1 - (1 + 0) = j by omega]
      simp

/-- IN A ROUND: the key k lies in block T, the text t has been laid. -/
structure VecMid (w : World) (B n mb N g cap : Nat) (L : List KN) (xs : List Value) (t : List UInt8) (k : Key) (T : Nat) (vb : Value) (W : World) : Prop where
  own : W.ownsRow B 5 1 vb (n + t.length) (xs ++ Lib.byteCells t)
  kp : Kp B w W
  map : MapIs W mb N L
  keys : W.ownsRow w.heap.size 32 16 (.slice (some ⟨g, 0, none⟩) L.length cap) L.length (keyCells (sortKeys (L.map (·.1))))
  blk : W.heap[T]? = some (.cells k.cells.toArray 32)

theorem VecMid.range {w W : World} {B n mb N g cap T : Nat} {L : List KN} {xs : List Value} {t : List UInt8} {k : Key} {vb : Value} (h : VecMid w B n mb N g cap L xs t k T vb W) : W.rangeAt T 0 k.cells := by
  intro j v hj
  simp [World.cell?, h.blk]
  simpa using hj

theorem keys_kp {W W' : World} {B base g n cap : Nat} {zs : List Value} (h : W.ownsRow base 32 16 (.slice (some ⟨g, 0, none⟩) n cap) n zs) (hk : Kp B W W') : W'.ownsRow base 32 16 (.slice (some ⟨g, 0, none⟩) n cap) n zs := by
  refine ⟨h.1, ?_⟩
  rcases h.2 with hn | ⟨g', cap', cur, he, hB, hg, rest⟩
  · exact Or.inl hn
  · exact Or.inr ⟨g', cap', cur, he, hB, hk.others _ _ hg (by simp) (by simp), rest⟩

set_option maxHeartbeats 1000000 in
theorem vecAppend_any (B n mb N : Nat) (L : List KN) (sv : Value) (xs : List Value) (w : World) (hM : MapIs w mb N L) (hN : N ≤ 4096) (hown : w.ownsRow B 5 1 sv n xs) (hBw : B ≤ w.heap.size) (hlim : n + 300000 ≤ 140737488355328)
    (htab : Lib.TabBelow Ybad.prog B w powName .u64 Lib.pow10Tab) :
    Calls Ybad.prog 10 #[.map (some mb), sv] w fun e w' => ∃ v', e = .returned v' ∧ w'.ownsRow B 5 1 v' (n + (vtextTo (sortP L) L.length).length) (xs ++ Lib.byteCells (vtextTo (sortP L) L.length)) ∧ Kp B w w' := by
  obtain ⟨i0, hi, hz0, hz1, hz2⟩ := info_parts Ybad.info5
  have hmem := members_any mb N L w hM hN
  have hLN := hM.len_le
  have HU := hide hM.u64
  have HND := hide hM.nd
  have HT := hide htab
  clear htab
  go_enter Ybad.func10, Ybad.ntmps10
  go_wp2_with (go_at_call 11; refine hmem.mono ?_; rintro e w1 ⟨g, cap, rfl, hkeys, hb1⟩)
  have hV0 : VecAt w B n mb N g cap L xs 0 sv w1 := ⟨by simpa [vtextTo, Lib.byteCells] using row_below_all hb1 hown, Kp.of_below hb1 hBw, hM.block (hb1.block _ hM.lt), hkeys⟩
  obtain ⟨len, hlen⟩ : ∃ len, L.length = len := ⟨_, rfl⟩
  have HLen := hide hlen
  rw [hlen] at hLN ⊢
  clear hlen hkeys hmem
  go_loopw [1, 10] (fun vb vi W => ∃ i : Nat, vi = .int .i64 i ∧ i ≤ len ∧ VecAt w B n mb N g cap L xs i vb W) (fun _ vi _ => len - (intOf vi).toNat)
  case atStart => exact ⟨0, rfl, Nat.zero_le _, hV0⟩
  case round =>
    clear hV0
    obtain ⟨i, rfl, hil, hV⟩ := hrel
    by_cases hlt : i < len
    · have hiL : i < L.length := by rw [HLen.out]; exact hlt
      have hsk : i < (sortKeys (L.map (·.1))).length := by rw [sortKeys_length, List.length_map]; exact hiL
      obtain ⟨k, hk⟩ : ∃ k, (sortKeys (L.map (·.1)))[i]? = some k := ⟨_, List.getElem?_eq_getElem hsk⟩
      have hrg := hide (hV.range hiL k hk)
      have HK := hide hk
      clear hk hsk
      have HTL : Hid ((vtextTo (sortP L) i).length ≤ i * 54) := vtextTo_le _ (fun p hp => HU.out p (sortP_mem HND.out hp)) i
      have hth := hide (there_new wr 32 z16 (Key.cells k).toArray.size (by simp [Key.cells_length k]))
      have hsi := hide (show (Ybad.prog.info? 32).map (·.size) = some (Key.cells k).toArray.size by simpa using size32 k)
      have hbox := hide (box_cells wr 32 z16 (Key.cells k) (by rw [Key.cells_length k]; rfl))
      by_cases hi0 : 0 < i
      · go_wp2_with (first
          | (refine wpList_load_mid rfl 32 (.tmp 13) rfl g (i * 16) rfl (Key.cells k) _ hrg.out Ybad.underlying32 rfl (size32 k) ?_)
          | (refine wpList_store_mid rfl 32 (.tmp 6) (.tmp 14) rfl wr.heap.size 0 (Key.cells k).toArray rfl rfl hth.out hsi.out (all_oneCell_toArray (Key.one k)) ?_; rw [show (wr.alloc (.cells z16 32)).setCells wr.heap.size 0 (Key.cells k).toArray.toList = wr.alloc (.cells (Key.cells k).toArray 32) from hbox.out])
          | (at_builtin; refine wpList_append_own_at _ rfl _ _ 23 rfl B 5 i0 (.int .u8 0) 1 1 Ybad.underlying23 hi hz0 hz1 hz2 rfl (by decide) _ _ _ rfl ((hV.own.alloc _).alloc _) ⟨wr.heap.size + 1, 0, none⟩ 1 1 [.int .u8 32] rfl rfl ?c1 (by simp [Value.oneCell']) ?c3 ?c4 ?c5 ?_)
          | go_in)
        case c1 =>
          intro j u hj
          rw [Go.WideShapes.add_plain, Nat.zero_add, World.cell?_alloc_at _ _ _ _ (by simp)]
          simpa using hj
        case c3 => have := HTL.out; unfold maxLen; omega
        case c4 => have := HTL.out; omega
        case c5 => have := hV.kp.below.size; simp; omega
        intro v2 w2 hown2 hgrow _ hat
        have hszr := hV.kp.below.size
        have hkp2 : Kp B wr w2 := ((Kp.refl B wr).alloc (by omega) (.cells (Key.cells k).toArray 32)).trans (kp_append1 (hV.own.alloc _) (by simp; omega) hgrow)
        have hF : VecMid w B n mb N g cap L xs (vtextTo (sortP L) i ++ [32]) k wr.heap.size v2 w2 := by
          refine ⟨?_, hV.kp.trans hkp2, hV.map.kp hkp2, ?_, ?_⟩
          · have e1 : (vtextTo (sortP L) i ++ [32]).length = (vtextTo (sortP L) i).length + 1 := by simp
            have e2 : xs ++ Lib.byteCells (vtextTo (sortP L) i ++ [32]) = xs ++ (Lib.byteCells (vtextTo (sortP L) i) ++ [.int .u8 32]) := by simp [Lib.byteCells]
            rw [e1, e2, ← Nat.add_assoc]
            exact hown2
          · exact keys_kp hV.keys hkp2
          · exact (kp_append1 (hV.own.alloc _) (by simp; omega) hgrow).others _ _ (heap_alloc_new wr _) (by simp) (by simp)
        have HF := hide hF
        have hrg2 : w2.rangeAt wr.heap.size 0 (Key.cells k) := hF.range
        have hcl := Key.cells_length k
        have hfb := fold_build k
        have hu32 := Ybad.underlying32
        have hs32 := size32 k
        have hlook : (Instr.lookup 25 (.map (some mb)) (.agg (Key.cells k).toArray) false).run Ybad.prog w2.drew = .ok (.int .u64 (valOf L k : Nat)) w2.drew := by
          obtain ⟨p, hp, rfl⟩ := mem_sortKeys (List.mem_of_getElem? HK.out)
          rw [valOf_mem HND.out hp]
          exact MapIs.look (w := w2.drew) (hF.map.block rfl) hp
        generalize hvv : valOf L k = vv at hlook
        have HVV := hide hvv
        clear hat hgrow hown2 hF hvv
        have hload : (Instr.loadAt 32 (.pointer (some ⟨wr.heap.size, 0, none⟩))).run Ybad.prog w2.drew = .ok (.agg (Key.cells k).toArray) w2.drew := run_loadAt_mid w2.drew wr.heap.size 0 32 (Key.cells k) _ hrg2 hu32 rfl hs32
        clear hload
        go_wp2
        refine wp_region_held_drew (S := fun w' => w'.rangeAt wr.heap.size 0 (Key.cells k) ∧ (Instr.lookup 25 (.map (some mb)) (.agg (Key.cells k).toArray) false).run Ybad.prog w' = .ok (.int .u64 (vv : Nat)) w') (by kernel_rfl) ⟨hrg2, hlook⟩ (fun hHeld => ?_)
        refine wpAnyH_take (i := 0) (v := .map (some mb)) rfl (by kernel_rfl) (by kernel_rfl) (by kernel_rfl) (fun _ _ _ h => h) (Or.inl ⟨by rfl, fun w' _ => by go_simp⟩) hHeld ?_
        simp only [Act.put, List.setIfInBounds_toArray, List.set_cons_zero, List.set_cons_succ]
        refine wpAnyH_take (i := 1) (v := .agg (Key.cells k).toArray) rfl (by kernel_rfl) (by kernel_rfl) (by kernel_rfl) (fun _ _ _ h => h) (yieldsIf_load_mid (by rfl) 32 (.tmp 6) rfl wr.heap.size 0 rfl (Key.cells k) _ (fun _ h => h.1) Ybad.underlying32 rfl (size32 k)) hHeld ?_
        simp only [Act.put, List.setIfInBounds_toArray, List.set_cons_zero, List.set_cons_succ]
        refine wpAnyH_take (i := 2) (v := .int .u64 (vv : Nat)) rfl (by kernel_rfl) (by kernel_rfl) (by kernel_rfl) (fun _ _ _ h => h) (Or.inl ⟨by rfl, fun w' hw' => by have hx := hw'.2; go_simp⟩) hHeld ?_
        simp only [Act.put, List.setIfInBounds_toArray, List.set_cons_zero, List.set_cons_succ]
        refine wpAnyH_take (i := 3) (v := .agg (Key.cells k).toArray) rfl (by kernel_rfl) (by kernel_rfl) (by kernel_rfl) (fun _ _ _ h => h) (yieldsIf_load_mid (by rfl) 32 (.tmp 6) rfl wr.heap.size 0 rfl (Key.cells k) _ (fun _ h => h.1) Ybad.underlying32 rfl (size32 k)) hHeld ?_
        simp only [Act.put, List.setIfInBounds_toArray, List.set_cons_zero, List.set_cons_succ]
        refine wpAnyH_take (i := 4) (v := .agg (Value.int .u64 (vv : Nat) :: Key.cells k).toArray) rfl (by kernel_rfl) (by kernel_rfl) (by kernel_rfl) (fun _ _ _ h => h) (Or.inl ⟨by rfl, fun w' _ => by go_simp⟩) hHeld ?_
        simp only [Act.put, List.setIfInBounds_toArray, List.set_cons_zero, List.set_cons_succ]
        refine wpAnyH_take (i := 5) (v := v2) rfl (by kernel_rfl) (by kernel_rfl) (by kernel_rfl) (fun _ _ _ h => h) (Or.inl ⟨by rfl, fun w' _ => by go_simp⟩) hHeld ?_
        simp only [Act.put, List.setIfInBounds_toArray, List.set_cons_zero, List.set_cons_succ]
        refine wpAnyH_ready (rs := [6]) (by kernel_rfl) (by simp) ?_
        refine AllReadyH.cons rfl (fun K hK => ?_) AllReadyH.nil
        go_simp
        have hF := HF.out
        have hsw := hF.kp.below.size
        have hpk : (k, vv) ∈ L := by
          obtain ⟨p, hp, e⟩ := mem_sortKeys (List.mem_of_getElem? HK.out)
          have e2 := valOf_mem HND.out hp
          rw [e, HVV.out] at e2
          rw [e2, ← e]
          exact hp
        have htl := HTL.out
        have hownd : w2.drew.ownsRow B 5 1 v2 (n + (vtextTo (sortP L) i ++ [(32 : UInt8)]).length) (xs ++ Lib.byteCells (vtextTo (sortP L) i ++ [(32 : UInt8)])) := hF.own
        refine (idAppend_any B _ k vv (HU.out _ hpk) v2 _ w2.drew hownd (by show B ≤ w2.heap.size; omega) (by simp only [List.length_append, List.length_singleton]; omega) (HT.out w2.drew hF.kp.below.drew)).mono ?_
        rintro e w3 ⟨v3, rfl, hown3, hkp3⟩
        refine hK.out _ _ ?_ (fun hHeld2 => ?_)
        · have hM3 := hF.map.kp (((Kp.refl B w2).drew).trans hkp3)
          refine ⟨?_, ?_⟩
          · intro j v hj
            have hb3 := hkp3.others _ _ hF.blk (by simp) (by simp)
            simp [World.cell?, hb3]
            simpa using hj
          · exact MapIs.look (w := w3) hM3 hpk
        · refine wpAnyH_take (i := 7) (v := v3) rfl (by kernel_rfl) (by kernel_rfl) (by kernel_rfl) (fun _ _ _ h => h) (Or.inl ⟨by rfl, fun w' _ => by go_simp⟩) hHeld2 ?_
          simp only [Act.put, List.setIfInBounds_toArray, List.set_cons_zero, List.set_cons_succ]
          refine wpAnyH_done (by kernel_rfl) ?_ _
          clear hHeld hHeld2 hlook hrg2 hfb hcl hF
          go_wp2
          go_roundw
          case rel =>
            have hF := HF.out
            have hkp3' : Kp B w2 w3 := ((Kp.refl B w2).drew).trans hkp3
            refine ⟨i + 1, by go_num, by omega, ?_, hF.kp.trans hkp3', hF.map.kp hkp3', keys_kp hF.keys hkp3'⟩
            have hsp : (sortP L)[i]? = some (k, vv) := by
              rw [sortP, List.getElem?_map, HK.out, ← HVV.out]
              rfl
            have e1 : vtextTo (sortP L) (i + 1) = (vtextTo (sortP L) i ++ [32]) ++ idText (k, vv) := by
              simp only [vtextTo, hsp, if_pos hi0]
              simp
            rw [e1]
            have e2 : (vtextTo (sortP L) i ++ [32] ++ idText (k, vv)).length = (vtextTo (sortP L) i ++ [32]).length + (idText (k, vv)).length := List.length_append
            have e3 : xs ++ Lib.byteCells (vtextTo (sortP L) i ++ [32] ++ idText (k, vv)) = xs ++ Lib.byteCells (vtextTo (sortP L) i ++ [32]) ++ Lib.byteCells (idText (k, vv)) := by simp [Lib.byteCells]
            rw [e2, e3, ← Nat.add_assoc]
            exact hown3
          case measure => simp [intOf]; omega
      · go_wp2_with (first
          | (refine wpList_load_mid rfl 32 (.tmp 13) rfl g (i * 16) rfl (Key.cells k) _ hrg.out Ybad.underlying32 rfl (size32 k) ?_)
          | (refine wpList_store_mid rfl 32 (.tmp 6) (.tmp 14) rfl wr.heap.size 0 (Key.cells k).toArray rfl rfl hth.out hsi.out (all_oneCell_toArray (Key.one k)) ?_; rw [show (wr.alloc (.cells z16 32)).setCells wr.heap.size 0 (Key.cells k).toArray.toList = wr.alloc (.cells (Key.cells k).toArray 32) from hbox.out])
          | go_in)
        have hszr := hV.kp.below.size
        have hkp2 : Kp B wr (wr.alloc (.cells (Key.cells k).toArray 32)) := (Kp.refl B wr).alloc (by omega) _
        have hF : VecMid w B n mb N g cap L xs (vtextTo (sortP L) i) k wr.heap.size u1 (wr.alloc (.cells (Key.cells k).toArray 32)) :=
          ⟨hV.own.alloc _, hV.kp.trans hkp2, hV.map.kp hkp2, keys_kp hV.keys hkp2, heap_alloc_new wr _⟩
        revert hkp2 hF
        generalize wr.alloc (.cells (Key.cells k).toArray 32) = w2
        intro hkp2 hF
        have HF := hide hF
        have hrg2 : w2.rangeAt wr.heap.size 0 (Key.cells k) := hF.range
        have hcl := Key.cells_length k
        have hfb := fold_build k
        have hu32 := Ybad.underlying32
        have hs32 := size32 k
        have hlook : (Instr.lookup 25 (.map (some mb)) (.agg (Key.cells k).toArray) false).run Ybad.prog w2.drew = .ok (.int .u64 (valOf L k : Nat)) w2.drew := by
          obtain ⟨p, hp, rfl⟩ := mem_sortKeys (List.mem_of_getElem? HK.out)
          rw [valOf_mem HND.out hp]
          exact MapIs.look (w := w2.drew) (hF.map.block rfl) hp
        generalize hvv : valOf L k = vv at hlook
        have HVV := hide hvv
        clear hF hvv
        have hload : (Instr.loadAt 32 (.pointer (some ⟨wr.heap.size, 0, none⟩))).run Ybad.prog w2.drew = .ok (.agg (Key.cells k).toArray) w2.drew := run_loadAt_mid w2.drew wr.heap.size 0 32 (Key.cells k) _ hrg2 hu32 rfl hs32
        clear hload
        refine wp_region_held_drew (S := fun w' => w'.rangeAt wr.heap.size 0 (Key.cells k) ∧ (Instr.lookup 25 (.map (some mb)) (.agg (Key.cells k).toArray) false).run Ybad.prog w' = .ok (.int .u64 (vv : Nat)) w') (by kernel_rfl) ⟨hrg2, hlook⟩ (fun hHeld => ?_)
        refine wpAnyH_take (i := 0) (v := .map (some mb)) rfl (by kernel_rfl) (by kernel_rfl) (by kernel_rfl) (fun _ _ _ h => h) (Or.inl ⟨by rfl, fun w' _ => by go_simp⟩) hHeld ?_
        simp only [Act.put, List.setIfInBounds_toArray, List.set_cons_zero, List.set_cons_succ]
        refine wpAnyH_take (i := 1) (v := .agg (Key.cells k).toArray) rfl (by kernel_rfl) (by kernel_rfl) (by kernel_rfl) (fun _ _ _ h => h) (yieldsIf_load_mid (by rfl) 32 (.tmp 6) rfl wr.heap.size 0 rfl (Key.cells k) _ (fun _ h => h.1) Ybad.underlying32 rfl (size32 k)) hHeld ?_
        simp only [Act.put, List.setIfInBounds_toArray, List.set_cons_zero, List.set_cons_succ]
        refine wpAnyH_take (i := 2) (v := .int .u64 (vv : Nat)) rfl (by kernel_rfl) (by kernel_rfl) (by kernel_rfl) (fun _ _ _ h => h) (Or.inl ⟨by rfl, fun w' hw' => by have hx := hw'.2; go_simp⟩) hHeld ?_
        simp only [Act.put, List.setIfInBounds_toArray, List.set_cons_zero, List.set_cons_succ]
        refine wpAnyH_take (i := 3) (v := .agg (Key.cells k).toArray) rfl (by kernel_rfl) (by kernel_rfl) (by kernel_rfl) (fun _ _ _ h => h) (yieldsIf_load_mid (by rfl) 32 (.tmp 6) rfl wr.heap.size 0 rfl (Key.cells k) _ (fun _ h => h.1) Ybad.underlying32 rfl (size32 k)) hHeld ?_
        simp only [Act.put, List.setIfInBounds_toArray, List.set_cons_zero, List.set_cons_succ]
        refine wpAnyH_take (i := 4) (v := .agg (Value.int .u64 (vv : Nat) :: Key.cells k).toArray) rfl (by kernel_rfl) (by kernel_rfl) (by kernel_rfl) (fun _ _ _ h => h) (Or.inl ⟨by rfl, fun w' _ => by go_simp⟩) hHeld ?_
        simp only [Act.put, List.setIfInBounds_toArray, List.set_cons_zero, List.set_cons_succ]
        refine wpAnyH_take (i := 5) (v := u1) rfl (by kernel_rfl) (by kernel_rfl) (by kernel_rfl) (fun _ _ _ h => h) (Or.inl ⟨by rfl, fun w' _ => by go_simp⟩) hHeld ?_
        simp only [Act.put, List.setIfInBounds_toArray, List.set_cons_zero, List.set_cons_succ]
        refine wpAnyH_ready (rs := [6]) (by kernel_rfl) (by simp) ?_
        refine AllReadyH.cons rfl (fun K hK => ?_) AllReadyH.nil
        go_simp
        have hF := HF.out
        have hsw := hF.kp.below.size
        have hpk : (k, vv) ∈ L := by
          obtain ⟨p, hp, e⟩ := mem_sortKeys (List.mem_of_getElem? HK.out)
          have e2 := valOf_mem HND.out hp
          rw [e, HVV.out] at e2
          rw [e2, ← e]
          exact hp
        have htl := HTL.out
        have hownd : w2.drew.ownsRow B 5 1 u1 (n + (vtextTo (sortP L) i).length) (xs ++ Lib.byteCells (vtextTo (sortP L) i)) := hF.own
        refine (idAppend_any B _ k vv (HU.out _ hpk) u1 _ w2.drew hownd (by show B ≤ w2.heap.size; omega) (by omega) (HT.out w2.drew hF.kp.below.drew)).mono ?_
        rintro e w3 ⟨v3, rfl, hown3, hkp3⟩
        refine hK.out _ _ ?_ (fun hHeld2 => ?_)
        · have hM3 := hF.map.kp (((Kp.refl B w2).drew).trans hkp3)
          refine ⟨?_, ?_⟩
          · intro j v hj
            have hb3 := hkp3.others _ _ hF.blk (by simp) (by simp)
            simp [World.cell?, hb3]
            simpa using hj
          · exact MapIs.look (w := w3) hM3 hpk
        · refine wpAnyH_take (i := 7) (v := v3) rfl (by kernel_rfl) (by kernel_rfl) (by kernel_rfl) (fun _ _ _ h => h) (Or.inl ⟨by rfl, fun w' _ => by go_simp⟩) hHeld2 ?_
          simp only [Act.put, List.setIfInBounds_toArray, List.set_cons_zero, List.set_cons_succ]
          refine wpAnyH_done (by kernel_rfl) ?_ _
          clear hHeld hHeld2 hlook hrg2 hfb hcl hF
          go_wp2
          go_roundw
          case rel =>
            have hF := HF.out
            have hkp3' : Kp B w2 w3 := ((Kp.refl B w2).drew).trans hkp3
            refine ⟨i + 1, by go_num, by omega, ?_, hF.kp.trans hkp3', hF.map.kp hkp3', keys_kp hF.keys hkp3'⟩
            have hsp : (sortP L)[i]? = some (k, vv) := by
              rw [sortP, List.getElem?_map, HK.out, ← HVV.out]
              rfl
            have e1 : vtextTo (sortP L) (i + 1) = (vtextTo (sortP L) i) ++ idText (k, vv) := by
              simp only [vtextTo, hsp, if_neg hi0]
              simp
            rw [e1]
            have e2 : (vtextTo (sortP L) i ++ idText (k, vv)).length = (vtextTo (sortP L) i).length + (idText (k, vv)).length := List.length_append
            have e3 : xs ++ Lib.byteCells (vtextTo (sortP L) i ++ idText (k, vv)) = xs ++ Lib.byteCells (vtextTo (sortP L) i) ++ Lib.byteCells (idText (k, vv)) := by simp [Lib.byteCells]
            rw [e2, e3, ← Nat.add_assoc]
            exact hown3
          case measure => simp [intOf]; omega
    · go_wp2
      go_ret
      have e : i = L.length := by rw [HLen.out]; omega
      subst e
      exact ⟨u1, rfl, hV.own, hV.kp⟩
end Go.Proofs.YbulkedvmDoor
