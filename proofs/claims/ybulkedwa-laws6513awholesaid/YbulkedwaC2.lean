import Derived.Test.YbulkedwaC1
namespace Go.Proofs.Ybulkedwa
open Go Go.RowKit
set_option maxRecDepth 100000
set_option linter.unusedVariables false
set_option linter.unusedSimpArgs false

/-- The budget behind the first u places. -/
def bud (E : Arcs) (width : Nat) (L0 : Int) (u : Nat) : Int := L0 - (((u + st E u) * width : Nat) : Int)
def stop (E : Arcs) (width : Nat) (L0 Fl Fo : Int) (u : Nat) : Prop := bud E width L0 (u + 1) < Fl ∨ 1048576 < Fo

/-- The rows while place u is taken: behind r arcs .. -/
def Fa (E : Arcs) (u r : Nat) : Nat → Nat → Bool := fun u' y => if u' = u then ((hds E u).take r).any (fun x => x == y || R E x y) else (decide (u' < u) && R E u' y)
/-- .. and while the row of arc r's head x is being added, behind i words. -/
def Fm (E : Arcs) (u r x i : Nat) : Nat → Nat → Bool := fun u' y => if u' = u then (((hds E u).take r).any (fun x => x == y || R E x y) || (decide (y / 64 < i) && R E x y)) else (decide (u' < u) && R E u' y)

theorem Fa_start (E : Arcs) (u u' y : Nat) : (decide (u' < u) && R E u' y) = Fa E u 0 u' y := by
  unfold Fa
  by_cases h : u' = u
  · subst h; simp
  · simp [h]
theorem Fa_end (E : Arcs) (hE : ∀ e ∈ E, e.2 < e.1) (u r u' y : Nat) (hr : deg E u ≤ r) : Fa E u r u' y = (decide (u' < u + 1) && R E u' y) := by
  unfold Fa
  have hall : (hds E u).take r = hds E u := List.take_of_length_le (by rw [hds_length]; exact hr)
  by_cases h : u' = u
  · subst h
    rw [if_pos rfl, hall, ← R_eq E hE]
    simp
  · rw [if_neg h]
    have : decide (u' < u + 1) = decide (u' < u) := by simp; omega
    rw [this]
theorem Fm_start (E : Arcs) (u r x u' y : Nat) : Fa E u r u' y = Fm E u r x 0 u' y := by
  unfold Fa Fm
  simp
theorem Fm_step (E : Arcs) (u r x i u' y : Nat) (hx : x < u) : (if u' = u ∧ y / 64 = i then (Fm E u r x i u y || Fm E u r x i x y) else Fm E u r x i u' y) = Fm E u r x (i + 1) u' y := by
  unfold Fm
  have hne : ¬ x = u := by omega
  by_cases h : u' = u
  · subst h
    by_cases hy : y / 64 = i
    · have h1 : decide (y / 64 < i + 1) = true := by simp; omega
      have h2 : decide (y / 64 < i) = false := by simp; omega
      simp [hy, h1, h2, hne, hx]
    · have h1 : decide (y / 64 < i + 1) = decide (y / 64 < i) := by simp; omega
      simp [hy, h1]
  · simp [h]
theorem Fm_end (E : Arcs) (hE : ∀ e ∈ E, e.2 < e.1) (u r x width u' y : Nat) (hx : (hds E u)[r]? = some x) (hxw : x ≤ 64 * width) : (if u' = u ∧ y / 64 = x / 64 then (Fm E u r x width u y || y == x) else Fm E u r x width u' y) = Fa E u (r + 1) u' y := by
  unfold Fm Fa
  by_cases h : u' = u
  · subst h
    have ht : (hds E u').take (r + 1) = (hds E u').take r ++ [x] := by
      rw [List.take_add_one, hx]
      rfl
    have hR : (decide (y / 64 < width) && R E x y) = R E x y := by
      by_cases hr : R E x y = true
      · have := R_lt E hE x y hr
        have h1 : y / 64 < width := by omega
        simp [h1]
      · have : R E x y = false := by simpa using hr
        simp [this]
    rw [ht, List.any_append]
    simp only [true_and, if_true, List.any_cons, List.any_nil, Bool.or_false, hR]
    by_cases hy : y / 64 = x / 64
    · rw [if_pos hy, Bool.or_assoc, Bool.or_comm (R E x y), show (y == x) = (x == y) from Bool.eq_iff_iff.2 (by simp; exact eq_comm)]
    · rw [if_neg hy]
      have : (x == y) = false := by simp; intro e; subst e; exact hy rfl
      rw [this, Bool.false_or]
  · simp [h]

theorem bud_succ (E : Arcs) (width : Nat) (L0 : Int) (u : Nat) : bud E width L0 (u + 1) = bud E width L0 u - (((1 + deg E u) * width : Nat) : Int) := by
  unfold bud
  rw [st_succ, show u + 1 + (st E u + deg E u) = (u + st E u) + (1 + deg E u) by omega, Nat.add_mul, Int.natCast_add]
  omega
theorem bud_range (E : Arcs) (width n u : Nat) (L0 : Int) (hL : -3000000000 ≤ L0 ∧ L0 ≤ 3000000000) (hw : width ≤ 4) (hu : u ≤ 256) (hs : st E u ≤ 65536) : -4000000000 ≤ bud E width L0 u ∧ bud E width L0 u ≤ 4000000000 := by
  have h1 : (u + st E u) * width ≤ 70000 * 4 := Nat.mul_le_mul (by omega) hw
  unfold bud
  omega
theorem spend_wrap (d width : Nat) (hd : d ≤ 65536) (hw : width ≤ 4) : IntKind.i64.wrap (IntKind.i64.wrap (1 + (d : Int)) * (width : Int)) = (((1 + d) * width : Nat) : Int) := by
  have h1 : (1 + d) * width ≤ 65537 * 4 := Nat.mul_le_mul (by omega) hw
  have h2 : IntKind.i64.wrap (1 + (d : Int)) = ((1 + d : Nat) : Int) := by rw [IntKind.wrap_i64]; omega
  rw [h2, ← Int.natCast_mul, IntKind.wrap_i64]
  omega

theorem cell_set_ne {W : World} {a : Addr} {b o : Nat} {x : Value} (v : Value) (h : b ≠ a.block) (hc : W.cell? ⟨b, o, none⟩ = some x) : (W.setCell a v).cell? ⟨b, o, none⟩ = some x := by
  simp only [World.cell?] at hc ⊢
  rw [heap_setCell_other W a b v (fun e => h (by first | exact e | exact e.symm))]
  exact hc

set_option maxHeartbeats 2000000 in
theorem closeOver_any (w : World) (E : Arcs) (n width bb tb pb ob sb vb nB wB co cs cv : Nat) (L0 Fl Fo : Int) (hS : Stat w E n width bb tb pb ob sb vb nB wB cs cv Fl Fo) (h0 : Co w w n width bb tb (fun _ _ => false) L0) (hL : -3000000000 ≤ L0 ∧ L0 ≤ 3000000000) :
    Calls Yba.prog 7 #[.pointer (some ⟨pb, 0, none⟩), .slice (some ⟨ob, 0, none⟩) n co, .agg #[.slice (some ⟨sb, 0, none⟩) (n + 1) cs, .slice (some ⟨vb, 0, none⟩) E.length cv], .func (.func 6) #[] #[.pointer (some ⟨nB, 0, none⟩), .pointer (some ⟨wB, 0, none⟩)]] w
      fun e w' => ∃ (k : Nat) (ok : Bool), e = .returned (.bool ok) ∧ k ≤ n ∧ (∀ u, u < k → ¬ stop E width L0 Fl Fo u) ∧ ((ok = true ∧ k = n ∧ Co w w' n width bb tb (fun u y => decide (u < k) && R E u y) (bud E width L0 n)) ∨ (ok = false ∧ k < n ∧ stop E width L0 Fl Fo k ∧ Co w w' n width bb tb (fun u y => decide (u < k) && R E u y) (bud E width L0 (k + 1)))) := by
  have HS := hide hS
  have H0 := hide h0
  have hn255 := hS.n255
  obtain ⟨m, hm⟩ : ∃ m, E.length = m := ⟨_, rfl⟩
  have HM := hide hm
  have hm2 : m ≤ 65536 := by rw [← hm]; exact hS.len
  rw [hm]
  clear hS h0 hm
  go_enter Yba.func7, Yba.ntmps7
  go_wp2
  have hC0 : Co w (w.alloc (.cells #[.slice (some ⟨sb, 0, none⟩) (n + 1) cs, .slice (some ⟨vb, 0, none⟩) m cv] 29)) n width bb tb (fun _ _ => false) L0 := H0.out.below ((Below.refl _ _).alloc (Nat.le_refl _) _)
  have hbx := heap_alloc_new w (.cells #[.slice (some ⟨sb, 0, none⟩) (n + 1) cs, .slice (some ⟨vb, 0, none⟩) m cv] 29)
  revert hC0 hbx
  generalize w.alloc _ = W0
  intro hC0 hbx
  have HC0 := hide hC0
  have HBX := hide hbx
  clear hC0 hbx
  go_loopw [18] (fun vi W => ∃ (u : Nat), vi = .int .i64 u ∧ u ≤ n ∧ Co w W n width bb tb (fun u' y => decide (u' < u) && R E u' y) (bud E width L0 u) ∧ W.heap[w.heap.size]? = some (.cells #[.slice (some ⟨sb, 0, none⟩) (n + 1) cs, .slice (some ⟨vb, 0, none⟩) m cv] 29) ∧ Hid (∀ u', u' < u → ¬ stop E width L0 Fl Fo u')) (fun vi _ => n - (intOf vi).toNat)
  case atStart =>
    refine ⟨0, rfl, Nat.zero_le _, ?_, HBX.out, fun u' h => by omega⟩
    have : bud E width L0 0 = L0 := by simp [bud, st_zero]
    rw [this]
    exact HC0.out.congr fun u y _ => by simp
  case round =>
    clear HC0 HBX
    obtain ⟨u, rfl, hu, hC, hbx, HN⟩ := hrel
    by_cases hlt : u < n
    · have hfr := hC.fr
      have hord := hfr.cell (HS.out.ord u hlt) HS.out.nb.1 HS.out.nt.1
      have hs1 := hfr.cell (HS.out.sta u (by omega)) HS.out.nb.2.1 HS.out.nt.2.1
      have hs2 := hfr.cell (HS.out.sta (u + 1) hlt) HS.out.nb.2.1 HS.out.nt.2.1
      have hp5 := hfr.cell HS.out.p5 HS.out.nb.2.2.2.2.2 HS.out.nt.2.2.2.2.2.1
      have hp29 := hfr.cell HS.out.p29 HS.out.nb.2.2.2.2.2 HS.out.nt.2.2.2.2.2.1
      have hb0 : wr.cell? ⟨w.heap.size, 0, none⟩ = some (.slice (some ⟨sb, 0, none⟩) (n + 1) cs) := by simp [World.cell?, hbx]
      have hb1 : wr.cell? ⟨w.heap.size, 1, none⟩ = some (.slice (some ⟨vb, 0, none⟩) m cv) := by simp [World.cell?, hbx]
      have hss : st E (u + 1) = st E u + deg E u := st_succ E u
      have hsl : st E (u + 1) ≤ m := by
        rw [← HM.out, ← st_all E n HS.out.top]
        exact st_mono E hlt
      have hcv : m ≤ cv ∧ cv ≤ 1000000 := by rw [← HM.out]; exact HS.out.cvl
      have hlc := hC.leftCell
      obtain ⟨s, hs⟩ : ∃ s, st E u = s := ⟨_, rfl⟩
      obtain ⟨e, he⟩ : ∃ e, st E (u + 1) = e := ⟨_, rfl⟩
      rw [hs] at hs1 hss
      rw [he] at hs2 hsl hss
      have c15 := of_any sb vb n m u s e cs cv wr.drew hs1 hs2 hlt (by omega) hsl hm2 hn255 hcv.1 hcv.2
      have hw4 : width ≤ 4 := by rw [HS.out.wid]; omega
      have hdg : deg E u ≤ 65536 := Nat.le_trans (deg_le E u) HS.out.len
      have hr0 := bud_range E width n u L0 hL hw4 (by omega) (by omega)
      have hr1 := bud_range E width n (u + 1) L0 hL hw4 (by omega) (by omega)
      rw [bud_succ] at hr1
      have hwx := spend_wrap (deg E u) width hdg hw4
      have HBS := hide (bud_succ E width L0 u)
      obtain ⟨X, hX⟩ : ∃ X, (1 + deg E u) * width = X := ⟨_, rfl⟩
      rw [hX] at hwx hr1
      have HX := hide hX
      clear hX
      have hpt : pb ≠ tb := HS.out.nt.2.2.2.2.2.1
      have hbw : w.heap.size ≠ bb := by
        have h2 := (H0.out.bits.lt bb rfl).2
        omega
      have htw : w.heap.size ≠ tb := by
        have h1 := H0.out.left
        have h2 := (Array.getElem?_eq_some_iff.1 h1).1
        omega
      have HC := hide hC
      have HB := hide hbx
      have Hs := hide hs
      have He := hide he
      clear hs he hbx hC hs1 hs2 hcv
      go_upto_region 4 with fail
      go_cut [35] (fun _ W => Co w W n width bb tb (fun u' y => decide (u' < u) && R E u' y) (bud E width L0 (u + 1)) ∧ W.heap[w.heap.size]? = some (.cells #[.slice (some ⟨sb, 0, none⟩) (n + 1) cs, .slice (some ⟨vb, 0, none⟩) m cv] 29))
      case first =>
        go_region_held (fun w' => w'.cell? ⟨pb, 5, none⟩ = some (.int .i64 (width : Nat)) ∧ w'.cell? ⟨w.heap.size, 0, none⟩ = some (.slice (some ⟨sb, 0, none⟩) (n + 1) cs) ∧ w'.cell? ⟨w.heap.size, 1, none⟩ = some (.slice (some ⟨vb, 0, none⟩) m cv))
          (first | exact ⟨hp5, hb0, hb1⟩ | exact ⟨hp5', hb0', hb1'⟩ | exact ⟨cell_set_ne _ hpt hp5', cell_set_ne _ htw hb0', cell_set_ne _ htw hb1'⟩ | go_keep)
          (first
            | (go_at_call 15; refine c15.mono ?_; rintro r w2 ⟨⟨ao, c, rfl, _⟩, hb2d⟩; have hb2 : Below wr.heap.size wr w2 := ⟨hb2d.os, hb2d.tape, hb2d.output, hb2d.size, hb2d.block⟩; have hp5' := keepS hb2 hp5; have hb0' := keepS hb2 hb0; have hb1' := keepS hb2 hb1)
            | (go_at_call 14; refine (spend_any pb 32 tb (bud E width L0 u) X w2 (keepS hb2 hp29) (keepS hb2 hlc.1) ((Co.leftCell (HC.out.below hb2)).2) (by omega)).mono ?_; rintro r w3 ⟨rfl, rfl⟩))
        go_wp2_with fail
        go_meet
        refine ⟨?_, ?_⟩
        · have := (HC.out.below hb2).spend HS.out.nt.2.2.2.2.2.2 (bud E width L0 u - (X : Int))
          rw [HBS.out, HX.out]
          exact this
        · rw [heap_setCell_other w2 ⟨tb, 0, none⟩ w.heap.size _ (by first | exact htw | exact htw.symm)]
          exact (hb2.block _ (Array.getElem?_eq_some_iff.1 HB.out).1).trans HB.out
      case rest =>
        clear HC HB c15 hlc hp5 hp29 hb0 hb1 hord hfr hwx hr0 hr1
        obtain ⟨hC, hbx⟩ := hcut
        have hfr := hC.fr
        have hp5 := hfr.cell HS.out.p5 HS.out.nb.2.2.2.2.2 HS.out.nt.2.2.2.2.2.1
        have hp6 := hfr.cell HS.out.p6 HS.out.nb.2.2.2.2.2 HS.out.nt.2.2.2.2.2.1
        have hp32 := hfr.cell HS.out.p29 HS.out.nb.2.2.2.2.2 HS.out.nt.2.2.2.2.2.1
        have hp33 := hfr.cell HS.out.p30 HS.out.nb.2.2.2.2.2 HS.out.nt.2.2.2.2.2.1
        have hp34 := hfr.cell HS.out.p31 HS.out.nb.2.2.2.2.2 HS.out.nt.2.2.2.2.2.1
        have c16 := spent_any pb 32 tb (bud E width L0 (u + 1)) Fl Fo wc hp32 hC.leftCell.1 hp33 hp34
        have HC := hide hC
        have HB := hide hbx
        clear hC hbx hfr hp32 hp33 hp34 hp5 hp6
        by_cases hst : stop E width L0 Fl Fo u
        · rw [show decide (bud E width L0 (u + 1) < Fl ∨ 1048576 < Fo) = true from decide_eq_true hst] at c16
          have HST := hide hst
          clear hst
          go_wp2_with (go_at_call 16; refine c16.mono ?_; rintro r w3 ⟨rfl, q3, hw3⟩; have HW3 := hide hw3; clear hw3)
          go_ret
          refine ⟨u, false, rfl, hu, HN.out, Or.inr ⟨rfl, hlt, HST.out, ?_⟩⟩
          rw [HW3.out]
          exact HC.out.below (below_drewN _ _ _)
        · rw [show decide (bud E width L0 (u + 1) < Fl ∨ 1048576 < Fo) = false from decide_eq_false hst] at c16
          have HST := hide hst
          clear hst
          go_upto_region 7 with (go_at_call 16; refine c16.mono ?_; rintro r w3 ⟨rfl, q3, hw3⟩; have HW3 := hide hw3; clear hw3)
          have hC3 : Co w w3 n width bb tb (fun u' y => decide (u' < u) && R E u' y) (bud E width L0 (u + 1)) := by rw [HW3.out]; exact HC.out.below (below_drewN _ _ _)
          have hB3 : w3.heap[w.heap.size]? = some (.cells #[.slice (some ⟨sb, 0, none⟩) (n + 1) cs, .slice (some ⟨vb, 0, none⟩) m cv] 29) := by rw [HW3.out]; exact HB.out
          clear HW3 HC HB c16
          have hfr := hC3.fr
          have cAt := at_any nB wB n width u w3 (hfr.cell HS.out.cn HS.out.nb.2.2.2.1 HS.out.nt.2.2.2.1) (hfr.cell HS.out.cw HS.out.nb.2.2.2.2.1 HS.out.nt.2.2.2.2.1) hlt hn255 hw4
          have hw0 : 0 < width := by rw [HS.out.wid]; omega
          have hix : (n - 1 - u) * width + width ≤ n * width := by
            have := row_ix (width := width) (i := width - 1) hlt (by omega)
            omega
          have hNw : n * width ≤ 2000 := Nat.le_trans (Nat.mul_le_mul hn255 hw4) (by omega)
          have cRow := row_any pb bb (n * width) width ((n - 1 - u) * width) w3 (hfr.cell HS.out.p6 HS.out.nb.2.2.2.2.2 HS.out.nt.2.2.2.2.2.1) (hfr.cell HS.out.p5 HS.out.nb.2.2.2.2.2 HS.out.nt.2.2.2.2.2.1) hNw hix hw0
          obtain ⟨ru, hru⟩ : ∃ ru, (n - 1 - u) * width = ru := ⟨_, rfl⟩
          have HRU := hide hru
          rw [hru] at cAt cRow hix
          have HC3 := hide hC3
          have HB3 := hide hB3
          clear hC3 hB3 hfr hru
          go_upto_region 8 with (first
            | (go_at_call 6; refine cAt.mono ?_; rintro r w4 ⟨rfl, rfl⟩)
            | (go_at_call 17; refine cRow.mono ?_; rintro r w4 ⟨⟨c4, rfl⟩, q4, hw4'⟩; have HW4 := hide hw4'; clear hw4'))
          have hC4 : Co w w4 n width bb tb (fun u' y => decide (u' < u) && R E u' y) (bud E width L0 (u + 1)) := by rw [HW4.out]; exact HC3.out.below (below_drewN _ _ _)
          have hB4 : w4.heap[w.heap.size]? = some (.cells #[.slice (some ⟨sb, 0, none⟩) (n + 1) cs, .slice (some ⟨vb, 0, none⟩) m cv] 29) := by rw [HW4.out]; exact HB3.out
          clear HW4 HC3 HB3 cAt cRow
          have hb0 : w4.cell? ⟨w.heap.size, 0, none⟩ = some (.slice (some ⟨sb, 0, none⟩) (n + 1) cs) := by simp [World.cell?, hB4]
          have hb1 : w4.cell? ⟨w.heap.size, 1, none⟩ = some (.slice (some ⟨vb, 0, none⟩) m cv) := by simp [World.cell?, hB4]
          have hs1 := hC4.fr.cell (HS.out.sta u (by omega)) HS.out.nb.2.1 HS.out.nt.2.1
          have hs2 := hC4.fr.cell (HS.out.sta (u + 1) hlt) HS.out.nb.2.1 HS.out.nt.2.1
          rw [Hs.out] at hs1
          rw [He.out] at hs2
          have hcv : m ≤ cv ∧ cv ≤ 1000000 := by rw [← HM.out]; exact HS.out.cvl
          have c15 := of_any sb vb n m u s e cs cv w4 hs1 hs2 hlt (by omega) hsl hm2 hn255 hcv.1 hcv.2
          have hes : e - s = deg E u := by omega
          rw [hes] at c15
          have HC4 := hide hC4
          have HB4 := hide hB4
          clear hC4 hB4 hs1 hs2 hcv hes
          go_wp2_with (go_at_call 15; refine c15.mono ?_; rintro r w5 ⟨⟨ao, c5, rfl, hao⟩, hb5⟩)
          have hC5 := HC4.out.below hb5
          have hB5 := (hb5.block _ (Array.getElem?_eq_some_iff.1 HB4.out).1).trans HB4.out
          have HC5 := hide hC5
          have HB5 := hide hB5
          have HAO := hide hao
          clear hC5 hB5 HC4 HB4 c15 hb0 hb1 hb5 hao
          obtain ⟨dg, hdg2⟩ : ∃ dg, deg E u = dg := ⟨_, rfl⟩
          rw [hdg2] at hss hdg ⊢
          have HDG := hide hdg2
          clear hdg2
          go_loopw [49] (fun vr W => ∃ (r : Nat), vr = .int .i64 r ∧ r ≤ dg ∧ Co w W n width bb tb (Fa E u r) (bud E width L0 (u + 1)) ∧ W.heap[w.heap.size]? = some (.cells #[.slice (some ⟨sb, 0, none⟩) (n + 1) cs, .slice (some ⟨vb, 0, none⟩) m cv] 29)) (fun vr _ => dg - (intOf vr).toNat)
          case atStart =>
            exact ⟨0, rfl, Nat.zero_le _, HC5.out.congr fun u' y _ => Fa_start E u u' y, HB5.out⟩
          case round =>
            clear HC5 HB5
            obtain ⟨r, rfl, hr, hC, hbx⟩ := hrel
            by_cases hrl : r < dg
            · obtain rfl : ao = some ⟨vb, s, none⟩ := HAO.out (by omega)
              obtain ⟨x, hx⟩ : ∃ x, (hds E u)[r]? = some x := ⟨_, List.getElem?_eq_getElem (by rw [hds_length, HDG.out]; exact hrl)⟩
              have hxE : (u, x) ∈ E := (mem_hds E u x).1 (List.mem_of_getElem? hx)
              have hxu : x < u := HS.out.down _ hxE
              have hxn : x < n := by omega
              have hval := hC.fr.cell (HS.out.val u r x hx) HS.out.nb.2.2.1 HS.out.nt.2.2.1
              rw [Hs.out] at hval
              have hfr := hC.fr
              have cAt := at_any nB wB n width x wr (hfr.cell HS.out.cn HS.out.nb.2.2.2.1 HS.out.nt.2.2.2.1) (hfr.cell HS.out.cw HS.out.nb.2.2.2.2.1 HS.out.nt.2.2.2.2.1) hxn hn255 hw4
              have hix2 : (n - 1 - x) * width + width ≤ n * width := by
                have := row_ix (width := width) (i := width - 1) hxn (by omega)
                omega
              have cRow := row_any pb bb (n * width) width ((n - 1 - x) * width) wr (hfr.cell HS.out.p6 HS.out.nb.2.2.2.2.2 HS.out.nt.2.2.2.2.2.1) (hfr.cell HS.out.p5 HS.out.nb.2.2.2.2.2 HS.out.nt.2.2.2.2.2.1) hNw hix2 hw0
              obtain ⟨rx, hrx⟩ : ∃ rx, (n - 1 - x) * width = rx := ⟨_, rfl⟩
              have HRX := hide hrx
              rw [hrx] at cAt cRow hix2
              have HC := hide hC
              have HB := hide hbx
              have HX' := hide hx
              clear hC hbx hfr hrx hx hxE
              go_wp2_with (first
                | (go_at_call 6; refine cAt.mono ?_; rintro r2 w6 ⟨rfl, rfl⟩)
                | (go_at_call 17; refine cRow.mono ?_; rintro r2 w6 ⟨⟨c6, rfl⟩, q6, hw6'⟩; have HW6 := hide hw6'; clear hw6'))
              have hC6 : Co w w6 n width bb tb (Fm E u r x 0) (bud E width L0 (u + 1)) := by
                rw [HW6.out]
                exact (HC.out.below (below_drewN _ _ _)).congr fun u' y _ => Fm_start E u r x u' y
              have hB6 : w6.heap[w.heap.size]? = some (.cells #[.slice (some ⟨sb, 0, none⟩) (n + 1) cs, .slice (some ⟨vb, 0, none⟩) m cv] 29) := by rw [HW6.out]; exact HB.out
              have HC6 := hide hC6
              have HB6 := hide hB6
              clear hC6 hB6 HC HB HW6 cAt cRow hval
              go_loopw [59] (fun vi W => ∃ (i : Nat), vi = .int .i64 i ∧ i ≤ width ∧ Co w W n width bb tb (Fm E u r x i) (bud E width L0 (u + 1)) ∧ W.heap[w.heap.size]? = some (.cells #[.slice (some ⟨sb, 0, none⟩) (n + 1) cs, .slice (some ⟨vb, 0, none⟩) m cv] 29)) (fun vi _ => width - (intOf vi).toNat)
              case atStart => exact ⟨0, rfl, Nat.zero_le _, HC6.out, HB6.out⟩
              case round =>
                clear HC6 HB6
                obtain ⟨i, rfl, hiw, hC, hbx⟩ := hrel
                by_cases hil : i < width
                · have hwx := hC.wordAt hxn hil
                  have hwu := hC.wordAt hlt hil
                  rw [HRX.out] at hwx
                  rw [HRU.out] at hwu
                  obtain ⟨A, hA⟩ : ∃ A, word (Fm E u r x i x) i = A := ⟨_, rfl⟩
                  obtain ⟨B, hB⟩ : ∃ B, word (Fm E u r x i u) i = B := ⟨_, rfl⟩
                  have hAl : A < 18446744073709551616 := by rw [← hA]; exact word_lt _ _
                  have hBl : B < 18446744073709551616 := by rw [← hB]; exact word_lt _ _
                  rw [hA] at hwx
                  rw [hB] at hwu
                  have hor := bits_or_u64_nat B A hBl hAl
                  have HA := hide hA
                  have HBB := hide hB
                  have HC := hide hC
                  have HBX := hide hbx
                  obtain ⟨hwx1, hwx2⟩ := hwx
                  obtain ⟨hwu1, hwu2⟩ := hwu
                  clear hA hB hC hbx
                  go_wp2
                  go_roundw
                  case rel =>
                    refine ⟨i + 1, by go_num, by omega, ?_, ?_⟩
                    · have h1 := HC.out.set HS.out.nt.2.2.2.2.2.2 hlt hil (fun y => Fm E u r x i u y || Fm E u r x i x y)
                      rw [← word_or, HA.out, HBB.out, HRU.out] at h1
                      exact h1.congr fun u' y _ => Fm_step E u r x i u' y hxu
                    · rw [heap_setCell_other wr ⟨bb, ru + i, none⟩ w.heap.size _ (by first | exact hbw | exact hbw.symm)]
                      exact HBX.out
                  case measure => simp [intOf]; omega
                · have hiw2 : i = width := by omega
                  have hx64 : x / 64 < width := by have := HS.out.wid; omega
                  have hwu := hC.wordAt hlt hx64
                  rw [HRU.out] at hwu
                  obtain ⟨B, hB⟩ : ∃ B, word (Fm E u r x i u) (x / 64) = B := ⟨_, rfl⟩
                  have hBl : B < 18446744073709551616 := by rw [← hB]; exact word_lt _ _
                  rw [hB] at hwu
                  have c18 := setBit_any bb ru width c4 x B wr hwu.1 hwu.2 hx64 (by omega) hBl
                  have HBB := hide hB
                  have HC := hide hC
                  have HBX := hide hbx
                  have HIW := hide hiw2
                  clear hB hC hbx hwu hiw2
                  go_wp2_with (go_at_call 18; refine c18.mono ?_; rintro r2 w7 ⟨rfl, q7, hw7⟩; have HW7 := hide hw7; clear hw7)
                  go_roundw
                  case rel =>
                    refine ⟨r + 1, by go_num, by omega, ?_, ?_⟩
                    · rw [HW7.out]
                      have h1 := HC.out.set HS.out.nt.2.2.2.2.2.2 hlt hx64 (fun y => Fm E u r x i u y || y == x)
                      rw [← word_set, HBB.out, HRU.out] at h1
                      rw [HIW.out] at h1
                      exact (h1.below (below_drewN _ _ q7)).congr fun u' y _ => Fm_end E HS.out.down u r x width u' y HX'.out (by have := HS.out.wid; omega)
                    · rw [HW7.out]
                      show (wr.setCell _ _).heap[w.heap.size]? = _
                      rw [heap_setCell_other wr ⟨bb, ru + x / 64, none⟩ w.heap.size _ (by first | exact hbw | exact hbw.symm)]
                      exact HBX.out
                  case measure => simp [intOf]; omega
            · go_wp2
              go_roundw
              case rel =>
                refine ⟨u + 1, by go_num, by omega, hC.congr fun u' y _ => Fa_end E HS.out.down u r u' y (by rw [HDG.out]; omega), hbx, fun u' hu' => ?_⟩
                · by_cases h : u' = u
                  · subst h; exact HST.out
                  · exact HN.out u' (by omega)
              case measure => simp [intOf]; omega
    · go_wp2
      go_ret
      obtain rfl : n = u := by omega
      exact ⟨n, true, rfl, Nat.le_refl _, HN.out, Or.inl ⟨rfl, rfl, hC⟩⟩
end Go.Proofs.Ybulkedwa
