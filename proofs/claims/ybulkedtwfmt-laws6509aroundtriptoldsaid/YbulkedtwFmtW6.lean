import Derived.Test.YbulkedtwFmtW5
import Derived.Deep.QuietTactic
import Derived.BigQuiet
namespace Go.Proofs.YbulkedtwFmt
open Go Go.RowKit

theorem clone_nil (w : World) : Calls Ybaf.prog 5 #[.slice none 0 0] w fun e w' => e = .returned (.slice none 0 0) ∧ w' = w := by
  have hq24 := fun (wx : World) (a : Option Addr) (n c : Nat) => Lib.run_eql_slice_nil (P := Ybaf.prog) wx 24 27 a n c 0 0 Ybaf.underlying24
  go_enter Ybaf.func5, Ybaf.ntmps5
  go_wp2
  go_ret
  exact ⟨rfl, rfl⟩

theorem same_nil (w : World) : Calls Ybaf.prog 7 #[.slice none 0 0, .slice none 0 0] w fun e w' => e = .returned (.bool true) ∧ w' = w := by
  have hq24 := fun (wx : World) (a : Option Addr) (n c : Nat) => Lib.run_eql_slice_nil (P := Ybaf.prog) wx 24 27 a n c 0 0 Ybaf.underlying24
  go_enter Ybaf.func7, Ybaf.ntmps7
  go_wp2
  refine wp_loop_rounds 1 ?_
  rw [rounds_succ]
  go_wp2
  go_ret
  exact ⟨rfl, rfl⟩

theorem info_conv {w : World} {v : Value} {b : Option (List UInt8)} (h : InfoAt w v b) (hb : ∀ bs, b = some bs → bs ≠ []) : (convert 25 9 v).run Ybaf.prog w = .ok (.string ⟨(b.getD []).toArray⟩) w := by
  cases b with
  | none =>
    have e : v = .slice none 0 0 := h
    rw [e, run_convert_bytes_nil w 25 5 Ybaf.underlying25 Ybaf.underlying5 0 0 9 Ybaf.underlying9]
    rfl
  | some bs =>
    have h' : w.ownsRow 0 5 1 v bs.length (Lib.byteCells bs) := h
    rcases h'.2 with ⟨e, h0⟩ | ⟨g, cap, cur, e, hB, hg, h1, h2, _⟩
    · exact absurd (List.eq_nil_of_length_eq_zero h0) (hb bs rfl)
    · rw [e]
      refine run_convert_bytes_back w 25 9 5 ⟨g, 0, none⟩ cap bs Ybaf.underlying25 Ybaf.underlying5 Ybaf.underlying9 ?_
      intro j hj
      exact h'.cells (g := g) (by rw [e]; rfl) j _ (by simp [Lib.byteCells, List.getElem?_eq_getElem hj])

theorem equal12 (v1 v2 : Value) (s : ByteArray) (w : World) (h1 : (convert 25 9 v1).run Ybaf.prog w = .ok (.string s) w) (h2 : (convert 25 9 v2).run Ybaf.prog w = .ok (.string s) w) :
    Calls Ybaf.prog 12 #[v1, v2] w fun e w' => e = .returned (.bool true) ∧ w' = w := by
  go_enter Ybaf.func12, Ybaf.ntmps12
  go_wp2
  go_ret
  exact ⟨by simp, rfl⟩

theorem mem_ne (m : Mem) : ∀ bs, m.bytes = some bs → bs ≠ [] := by
  intro bs h
  unfold Mem.bytes at h
  cases hp : m.pc with
  | none => rw [hp] at h; cases h
  | some x =>
    rw [hp] at h
    simp at h
    rw [← h]
    intro e
    simp [info] at e
    exact encB_ne _ e.1

theorem InfoAt.heap {w W : World} {v : Value} {b : Option (List UInt8)} (h : InfoAt w v b) (e : W.heap = w.heap) : InfoAt W v b := by
  cases b with
  | none => exact h
  | some bs =>
    have h' : w.ownsRow 0 5 1 v bs.length (Lib.byteCells bs) := h
    show W.ownsRow 0 5 1 v bs.length (Lib.byteCells bs)
    unfold World.ownsRow at h' ⊢
    rw [e]
    exact h'

set_option maxHeartbeats 1000000 in
theorem same_any (ga ca gb cb B B' : Nat) (M C : List Mem) (w : World) (hM : MsAt w B (.slice (some ⟨ga, 0, none⟩) M.length ca) M) (hC : MsAt w B' (.slice (some ⟨gb, 0, none⟩) M.length cb) C)
    (hlen : M.length ≤ 16384) (hkey : C.map Mem.key = M.map Mem.key) :
    Calls Ybaf.prog 7 #[.slice (some ⟨ga, 0, none⟩) M.length ca, .slice (some ⟨gb, 0, none⟩) M.length cb] w fun e w' => e = .returned (.bool true) ∧ ∃ n, w' = w.drewN n := by
  have hq24 := fun (wx : World) (a : Option Addr) (n c : Nat) => Lib.run_eql_slice_nil (P := Ybaf.prog) wx 24 27 a n c 0 0 Ybaf.underlying24
  have hq25 := fun (wx : World) (a : Option Addr) (n c : Nat) => Lib.run_eql_slice_nil (P := Ybaf.prog) wx 25 5 a n c 0 0 Ybaf.underlying25
  obtain ⟨L, hL⟩ : ∃ L, M.length = L := ⟨_, rfl⟩
  have HL : Hid (M.length = L) := hL
  have Hkey := hide hkey
  rw [hL] at hlen
  rw [hL]
  clear hL hkey
  go_enter Ybaf.func7, Ybaf.ntmps7
  go_wp2
  go_loopw [20] (fun i W => ∃ (k n : Nat), i = .int .i64 k ∧ k ≤ L ∧ Hid (W = w.drewN n)) (fun i _ => L - (intOf i).toNat)
  case atStart => exact ⟨0, 0, rfl, Nat.zero_le _, rfl⟩
  case round =>
    obtain ⟨k, nd, rfl, hk, HW⟩ := hrel
    have hwc : ∀ b o, wr.cell? ⟨b, o, none⟩ = w.cell? ⟨b, o, none⟩ := fun b o => by rw [HW.out]; rfl
    have hwh : Hid (wr.heap = w.heap) := by show wr.heap = w.heap; rw [HW.out]; rfl
    by_cases hlt : k < L
    · obtain ⟨m, hm⟩ : ∃ m, M[k]? = some m := ⟨_, List.getElem?_eq_getElem (by rw [HL.out]; exact hlt)⟩
      obtain ⟨m', hm', hmk⟩ : ∃ m', C[k]? = some m' ∧ m'.key = m.key := by
        have := congrArg (fun l => l[k]?) Hkey.out
        simp only [List.getElem?_map, hm, Option.map_some] at this
        obtain ⟨m', h1, h2⟩ := Option.map_eq_some_iff.1 this
        exact ⟨m', h1, h2⟩
      obtain ⟨ra0, ra1⟩ := hM.read k _ hm
      obtain ⟨rb0, rb1⟩ := hC.read k _ hm'
      rw [← hwc] at ra0 ra1 rb0 rb1
      clear hwc
      have hia := hM.info _ (List.mem_of_getElem? hm)
      have hib := hC.info _ (List.mem_of_getElem? hm')
      have hka : (k : Int) < (L : Int) := by omega
      have hkb : (0 : Int) ≤ (k : Int) := by omega
      obtain ⟨id, pc, v⟩ := m
      obtain ⟨id', pc', v'⟩ := m'
      simp only [Mem.key, Prod.mk.injEq] at hmk
      obtain ⟨rfl, rfl⟩ := hmk
      obtain ⟨s, hcv1, hcv2⟩ : ∃ s, Hid (∀ W : World, W.heap = w.heap → (convert 25 9 v).run Ybaf.prog W = .ok (.string s) W) ∧ Hid (∀ W : World, W.heap = w.heap → (convert 25 9 v').run Ybaf.prog W = .ok (.string s) W) :=
        ⟨_, fun W e => info_conv (hia.heap e) (mem_ne _), fun W e => info_conv (hib.heap e) (mem_ne _)⟩
      have HIA := hide hia
      have HIB := hide hib
      clear hm hm' hM hC hia hib
      cases pc' with
      | none =>
        have e1 : v = .slice none 0 0 := HIA.out
        have e2 : v' = .slice none 0 0 := HIB.out
        subst e1 e2
        go_wp2
        go_quiet (fail)
        go_wp2
        have ra1' : (wr.drewN nq).cell? _ = _ := ra1
        have rb1' : (wr.drewN nq).cell? _ = _ := rb1
        have HW' : Hid (wr.drewN nq = w.drewN (nd + nq)) := by show wr.drewN nq = _; rw [HW.out, World.drewN_drewN]
        have hwh' : Hid ((wr.drewN nq).heap = w.heap) := hwh
        revert ra1' rb1' HW' hwh'
        generalize wr.drewN nq = W2
        intro ra1' rb1' HW' hwh'
        clear ra0 ra1 rb0 rb1
        go_quiet ((go_at_call 12; refine Calls.quiet_of_same (equal12 _ _ s _ ?_ ?_); exact hcv1.out _ hwh'.out; exact hcv2.out _ hwh'.out))
        go_wp2
        go_roundw
        case rel => exact ⟨k + 1, _, by go_num, by omega, (by rw [HW'.out, World.drewN_drewN]; exact rfl)⟩
        case measure => simp [intOf]; omega
      | some pq =>
        obtain ⟨p, q⟩ := pq
        obtain ⟨gi, icap, hiv, _⟩ := infoBytes (p := p) (c := q) HIA.out
        obtain ⟨gi', icap', hiv', _⟩ := infoBytes (p := p) (c := q) HIB.out
        have hx : v = .slice (some ⟨gi, 0, none⟩) (info p.data.toList q.data.toList).length icap := hiv
        have hx' : v' = .slice (some ⟨gi', 0, none⟩) (info p.data.toList q.data.toList).length icap' := hiv'
        clear hiv hiv'
        generalize (info p.data.toList q.data.toList).length = nI at hx hx'
        subst hx hx'
        clear HIA HIB
        go_wp2
        go_quiet (fail)
        go_wp2
        have ra1' : (wr.drewN nq).cell? _ = _ := ra1
        have rb1' : (wr.drewN nq).cell? _ = _ := rb1
        have HW' : Hid (wr.drewN nq = w.drewN (nd + nq)) := by show wr.drewN nq = _; rw [HW.out, World.drewN_drewN]
        have hwh' : Hid ((wr.drewN nq).heap = w.heap) := hwh
        revert ra1' rb1' HW' hwh'
        generalize wr.drewN nq = W2
        intro ra1' rb1' HW' hwh'
        clear ra0 ra1 rb0 rb1
        go_quiet ((go_at_call 12; refine Calls.quiet_of_same (equal12 _ _ s _ ?_ ?_); exact hcv1.out _ hwh'.out; exact hcv2.out _ hwh'.out))
        go_wp2
        go_roundw
        case rel => exact ⟨k + 1, _, by go_num, by omega, (by rw [HW'.out, World.drewN_drewN]; exact rfl)⟩
        case measure => simp [intOf]; omega
    · go_wp2
      go_ret
      exact ⟨rfl, _, HW.out⟩
end Go.Proofs.YbulkedtwFmt
