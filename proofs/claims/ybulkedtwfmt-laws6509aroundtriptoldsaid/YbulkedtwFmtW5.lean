import Derived.Test.YbulkedtwFmtW4
import Derived.Laws.CopyOwn
namespace Go.Proofs.YbulkedtwFmt
open Go Go.RowKit

theorem Ybaf.info27 : (Ybaf.prog.info? 27).map (fun i => (i.zero, i.size, i.bytes)) = some (some (.agg #[.int .i64 0, .slice none 0 0]), 2, 32) := by kernel_rfl

def Mem.key (m : Mem) : Int × Option (ByteArray × ByteArray) := (m.id, m.pc)
def zm : Mem := ⟨0, none, .slice none 0 0⟩

theorem memCells_append (A B : List Mem) : memCells (A ++ B) = memCells A ++ memCells B := by simp [memCells]
theorem memCells_length (A : List Mem) : (memCells A).length = A.length * 2 := by
  induction A with
  | nil => rfl
  | cons a A ih =>
    have e : memCells (a :: A) = .int .i64 a.id :: a.v :: memCells A := by simp [memCells]
    rw [e]
    simp [ih]
    omega

theorem memCells_set_id (A Z : List Mem) (m : Mem) (a : Int) : (memCells (A ++ m :: Z)).set (A.length * 2) (.int .i64 a) = memCells (A ++ ⟨a, m.pc, m.v⟩ :: Z) := by
  have e : ∀ x : Mem, memCells (x :: Z) = .int .i64 x.id :: x.v :: memCells Z := fun x => by simp [memCells]
  rw [memCells_append, memCells_append, e, e, List.set_append_right _ _ (by rw [memCells_length]; exact Nat.le_refl _), memCells_length]
  simp

theorem memCells_set_v (A Z : List Mem) (m : Mem) (pc : Option (ByteArray × ByteArray)) (u : Value) : (memCells (A ++ m :: Z)).set (A.length * 2 + 1) u = memCells (A ++ ⟨m.id, pc, u⟩ :: Z) := by
  have e : ∀ x : Mem, memCells (x :: Z) = .int .i64 x.id :: x.v :: memCells Z := fun x => by simp [memCells]
  rw [memCells_append, memCells_append, e, e, List.set_append_right _ _ (by rw [memCells_length]; omega), memCells_length]
  have : A.length * 2 + 1 - A.length * 2 = 1 := by omega
  rw [this]
  simp

theorem made_zeros (n : Nat) : (madeCells #[.int .i64 0, .slice none 0 0] (n * 2)).toList = memCells (List.replicate n zm) := by
  apply List.ext_getElem?
  intro j
  by_cases hj : j < n * 2
  · have h1 : j / 2 < n := by omega
    have h2 : (List.replicate n zm)[j / 2]? = some zm := by simp [h1]
    obtain ⟨g1, g2⟩ := memCells_get _ _ _ h2
    have h3 : j % 2 = 0 ∨ j % 2 = 1 := by omega
    rcases h3 with h3 | h3
    · have e : j / 2 * 2 = j := by omega
      rw [e] at g1
      rw [g1]
      simp [madeCells, hj, h3, zm]
    · have e : j / 2 * 2 + 1 = j := by omega
      rw [e] at g2
      rw [g2]
      simp [madeCells, hj, h3, zm]
  · rw [List.getElem?_eq_none (by simp [madeCells]; omega), List.getElem?_eq_none (by rw [memCells_length]; simp; omega)]

/-- THE LOOP OF clone. -/
structure ClnAt (w W : World) (n : Nat) (C : List Mem) : Prop where
  bel : Below w.heap.size w W
  own : W.ownsRow w.heap.size 27 2 (.slice (some ⟨w.heap.size, 0, none⟩) n n) n (memCells (C ++ List.replicate (n - C.length) zm))
  info : ∀ m ∈ C, InfoAt W m.v m.bytes

theorem ClnAt.setId {w W : World} {n : Nat} {C : List Mem} (h : ClnAt w W n C) (hlt : C.length < n) (id : Int) :
    (W.setCell ⟨w.heap.size, C.length * 2, none⟩ (.int .i64 id)).ownsRow w.heap.size 27 2 (.slice (some ⟨w.heap.size, 0, none⟩) n n) n (memCells (C ++ ⟨id, none, .slice none 0 0⟩ :: List.replicate (n - C.length - 1) zm)) := by
  have e : List.replicate (n - C.length) zm = zm :: List.replicate (n - C.length - 1) zm := by
    rw [← List.replicate_succ]
    congr 1
    omega
  have := (h.own.stored (C.length * 2) (.int .i64 id)).1
  rw [e, memCells_set_id] at this
  exact this

theorem ClnAt.push {w W : World} {n k : Nat} {C : List Mem} (hk : C.length = k) (m : Mem) (hb : Below w.heap.size w W)
    (hown : W.ownsRow w.heap.size 27 2 (.slice (some ⟨w.heap.size, 0, none⟩) n n) n (memCells (C ++ m :: List.replicate (n - k - 1) zm))) (hinf : ∀ x ∈ C, InfoAt W x.v x.bytes) (hm : InfoAt W m.v m.bytes) : ClnAt w W n (C ++ [m]) := by
  refine ⟨hb, ?_, ?_⟩
  · have e : C ++ [m] ++ List.replicate (n - (C ++ [m]).length) zm = C ++ m :: List.replicate (n - k - 1) zm := by
      rw [List.length_append, List.length_singleton, hk, ← Nat.sub_sub]
      simp
    rw [e]
    exact hown
  · intro x hx
    rcases List.mem_append.1 hx with h | h
    · exact hinf x h
    · simp at h
      subst h
      exact hm

theorem keys_snoc {M C : List Mem} {k : Nat} {m m' : Mem} (h : C.map Mem.key = (M.take k).map Mem.key) (hm : M[k]? = some m) (e : m'.key = m.key) : (C ++ [m']).map Mem.key = (M.take (k + 1)).map Mem.key := by
  rw [List.take_add_one, hm, List.map_append, List.map_append, h]
  simp [e]

theorem setId_infos {w W : World} {n o : Nat} {u : Value} {C : List Mem} (hC : ClnAt w W n C) : ∀ x ∈ C, InfoAt (W.setCell ⟨w.heap.size, o, none⟩ u) x.v x.bytes :=
  fun x hx => InfoAt.grown (u := .slice (some ⟨w.heap.size, 0, none⟩) n n) (hC.own.stored o u).2 hC.own (by decide) (hC.info x hx)

theorem made_block {w1 : World} {B h n : Nat} {xs : List Value} (hown : w1.ownsRow B 5 1 (.slice (some ⟨h, 0, none⟩) n n) n xs) : ∃ l : List Value, w1.heap[h]? = some (.cells l.toArray 5 (0, 0)) ∧ l.length = n := by
  rcases hown.2 with ⟨h', _⟩ | ⟨g', cap', cur, h', _, hg', _, _, hcs, _⟩
  · simp at h'
  · simp only [Value.slice.injEq, Option.some.injEq, Addr.mk.injEq, and_true, true_and] at h'
    obtain ⟨rfl, rfl⟩ := h'
    exact ⟨cur.toList, by simpa using hg', by simpa using hcs⟩

theorem copied_info {w2 : World} {h n : Nat} {l : List Value} {bs : List UInt8} (hn : bs.length = n) (hl : l.length = n) (hm : n ≤ maxLen) (hb : w2.heap[h]? = some (.cells (splice l 0 (Lib.byteCells bs)).toArray 5 (0, 0))) :
    InfoAt w2 (.slice (some ⟨h, 0, none⟩) n n) (some bs) := by
  have e : splice l 0 (Lib.byteCells bs) = Lib.byteCells bs := by
    have : (Lib.byteCells bs).length = n := by simp [Lib.byteCells, hn]
    simp [splice, this, ← hl]
  rw [e] at hb
  subst hn
  have e2 : (Lib.byteCells bs).length = bs.length * 1 := by simp [Lib.byteCells]
  exact ⟨e2, Or.inr ⟨h, bs.length, _, rfl, Nat.zero_le _, hb, Nat.le_refl _, hm, by simpa using e2, List.take_of_length_le (by simpa using Nat.le_of_eq e2)⟩⟩

theorem Ybaf.size5' : (Ybaf.prog.info? 5).map (·.size) = some 1 := by kernel_rfl

theorem copy_step (w1 : World) (h n gi icap : Nat) (l : List Value) (bs : List UInt8) (hl : w1.heap[h]? = some (.cells l.toArray 5 (0, 0))) (hln : l.length = n) (hn : bs.length = n)
    (hsrc : ∀ j v, (Lib.byteCells bs)[j]? = some v → w1.cell? ((⟨gi, 0, none⟩ : Addr).add j) = some v) :
    ∃ w2, (Builtin.copy_ #[25, 25] 3 #[.slice (some ⟨h, 0, none⟩) n n, .slice (some ⟨gi, 0, none⟩) n icap]).run Ybaf.prog w1 = .ok (goInt n) w2 ∧
      w2.heap[h]? = some (.cells (splice l 0 (Lib.byteCells bs)).toArray 5 (0, 0)) ∧ Below h w1 w2 := by
  have e1 : (Lib.byteCells bs).length = n := by simp [Lib.byteCells, hn]
  have hr := run_copy_row (P := Ybaf.prog) w1 25 25 3 5 h 0 n n ⟨gi, 0, none⟩ n icap l.toArray 5 (Lib.byteCells bs) Ybaf.underlying25 Ybaf.size5' hl (by rw [e1]; exact (Nat.min_self n).symm) hsrc (by simp [e1, hln])
    (by intro v hv; simp [Lib.byteCells] at hv; obtain ⟨b, _, rfl⟩ := hv; rfl)
  rw [e1] at hr
  refine ⟨_, hr, ?_, below_setRow (Below.refl _ _) (Nat.le_refl _) _⟩
  have := setRow_heap w1 h _ (l.toArray.toList.take 0 ++ Lib.byteCells bs ++ l.toArray.toList.drop (0 + n)).toArray 5 _ hl
  rw [this]
  simp [splice, e1]

set_option maxHeartbeats 1000000 in
theorem clone_any (v : Value) (B : Nat) (M : List Mem) (w : World) (hms : MsAt w B v M) (hlen : M.length ≤ 16384)
    (hsz : ∀ m ∈ M, ∀ p c, m.pc = some (p, c) → p.size ≤ 1048576 ∧ c.size ≤ 1048576) (hid : ∀ m ∈ M, m.pc = none → m.v = .slice none 0 0) (hnn : ∃ g cap, v = .slice (some ⟨g, 0, none⟩) M.length cap ∧ g < w.heap.size) :
    Calls Ybaf.prog 5 #[v] w fun e w' => ∃ g cap C, e = .returned (.slice (some ⟨g, 0, none⟩) M.length cap) ∧ MsAt w' w.heap.size (.slice (some ⟨g, 0, none⟩) M.length cap) C ∧ C.map Mem.key = M.map Mem.key ∧ Below w.heap.size w w' := by
  obtain ⟨i0, hi, hz0, hz1, hz2⟩ := info_parts Ybaf.info27
  obtain ⟨j0, hj, hy0, hy1, hy2⟩ := info_parts Ybaf.info5
  obtain ⟨g, cap, rfl, hg⟩ := hnn
  obtain ⟨L, hL⟩ : ∃ L, M.length = L := ⟨_, rfl⟩
  have HL : Hid (M.length = L) := hL
  rw [hL] at hlen
  rw [hL]
  have hb27 : i0.bytes * L ≤ 281474976710656 := by rw [hz2]; omega
  clear hL
  have hq24 := fun (wx : World) (a : Option Addr) (n c : Nat) => Lib.run_eql_slice_nil (P := Ybaf.prog) wx 24 27 a n c 0 0 Ybaf.underlying24
  have hq25 := fun (wx : World) (a : Option Addr) (n c : Nat) => run_neq_slice_nil_any (P := Ybaf.prog) wx 25 5 a n c 0 0 Ybaf.underlying25
  go_enter Ybaf.func5, Ybaf.ntmps5
  go_wp2_with (at_make; refine wpList_make_full _ rfl (.tmp 9) (.tmp 9) 24 rfl w.heap.size 27 i0 _ 2 Ybaf.underlying24 hi hz0 hz1 _ _ _ _ L rfl rfl rfl rfl hb27 (by unfold maxLen; omega) (Nat.le_refl _) ?_)
  intro w0 hown0 hgr0
  have hC0 : ClnAt w w0 L [] := ⟨(Below.refl _ _).grown hgr0 (Nat.le_refl _) (fun k hk => by cases hk), by rw [made_zeros] at hown0; simpa using hown0, fun m hm => by cases hm⟩
  clear hown0 hgr0
  go_wp2
  go_loopw [13] (fun i W => ∃ (k : Nat) (C : List Mem), i = .int .i64 k ∧ k ≤ L ∧ Hid (C.length = k) ∧ ClnAt w W L C ∧ Hid (C.map Mem.key = (M.take k).map Mem.key)) (fun i _ => L - (intOf i).toNat)
  case atStart => exact ⟨0, [], rfl, Nat.zero_le _, rfl, hC0, rfl⟩
  case round =>
    clear hC0
    obtain ⟨k, C, rfl, hk, hCk, hC, hkey⟩ := hrel
    by_cases hlt : k < L
    · have hm : ∃ m, M[k]? = some m := ⟨_, List.getElem?_eq_getElem (by rw [HL.out]; exact hlt)⟩
      obtain ⟨⟨id, pc, iv⟩, hm⟩ := hm
      have hmem : (⟨id, pc, iv⟩ : Mem) ∈ M := List.mem_of_getElem? hm
      obtain ⟨r0, r1⟩ := hms.read k _ hm
      have r0' : wr.cell? ⟨g, k * 2, none⟩ = some (.int .i64 id) := (bcl hC.bel _ _ hg).trans r0
      have r1' : wr.cell? ⟨g, k * 2 + 1, none⟩ = some iv := (bcl hC.bel _ _ hg).trans r1
      have hgne : ¬ g = w.heap.size := by omega
      have hgne' : ¬ w.heap.size = g := by omega
      have hinf := hms.info _ hmem
      have ho0 : ∃ x, wr.cell? ⟨w.heap.size, k * 2, none⟩ = some x := by
        rw [hC.own.cellAt (k * 2) (by omega)]
        exact ⟨_, List.getElem?_eq_getElem (by rw [memCells_length, List.length_append, List.length_replicate, hCk.out]; omega)⟩
      obtain ⟨x0, ho0⟩ := ho0
      have hf0 := hC.own.frozenAt (k * 2)
      have hS := hC.setId (by rw [hCk.out]; exact hlt) id
      have eCk := hCk.out
      rw [eCk] at hS
      clear eCk r0 r1
      cases pc with
      | none =>
        have hiv : iv = .slice none 0 0 := hid _ hmem rfl
        subst hiv
        have hP := ClnAt.push (W := wr.setCell ⟨w.heap.size, k * 2, none⟩ (.int .i64 id)) hCk.out _ (hC.bel.setCell (Nat.le_refl _) _) hS (setId_infos hC) (show InfoAt _ (.slice none 0 0) none from rfl)
        have hK := keys_snoc (m' := ⟨id, none, .slice none 0 0⟩) hkey.out hm rfl
        have HK := hide hK
        clear hK hS
        go_wp2
        go_roundw
        case rel => exact ⟨k + 1, _, by go_num, by omega, (by rw [List.length_append, hCk.out]; rfl), hP, HK⟩
        case measure => simp [intOf]; omega
      | some pq =>
        obtain ⟨p, q⟩ := pq
        obtain ⟨gi, icap, hiv, hgi, hil, hic, hib⟩ := infoBytes (p := p) (c := q) hinf
        have hiv' : iv = .slice (some ⟨gi, 0, none⟩) (info p.data.toList q.data.toList).length icap := hiv
        subst hiv'
        obtain ⟨hps, hqs⟩ := hsz _ hmem p q rfl
        have hib' : Hid _ := hib
        obtain ⟨nI, hnI⟩ : ∃ n, (info p.data.toList q.data.toList).length = n := ⟨_, rfl⟩
        have HnI : Hid ((info p.data.toList q.data.toList).length = nI) := hnI
        have hnI1 : nI ≤ 4194304 := by
          have h1 := encB_le p hps
          have h2 := encB_le q hqs
          rw [← hnI]
          simp only [info, List.length_append]
          omega
        rw [hnI] at hil r1'
        have hm' := hm
        rw [hnI] at hm'
        have hm'' := hide hm
        clear hib hinf hiv hnI hm hmem hm'
        have hb5 : j0.bytes * nI ≤ 281474976710656 := by rw [hy2]; omega
        have hzr := hC.bel.size
        have hzr2 := (hC.own.lt w.heap.size rfl).2
        go_wp2_with (first | (at_make; refine wpList_make_full _ rfl (.tmp 36) (.tmp 36) 25 rfl (w.heap.size + 1) 5 j0 _ 1 Ybaf.underlying25 hj hy0 hy1 _ _ _ _ nI rfl rfl rfl rfl hb5 (by unfold maxLen; omega) (by simp; omega) ?_))
        intro w1 hown1 hgr1
        have hsz0 : (wr.setCell ⟨w.heap.size, k * 2, none⟩ (.int .i64 id)).heap.size = wr.heap.size := by simp [World.setCell]
        have hB01 : Below (wr.setCell ⟨w.heap.size, k * 2, none⟩ (.int .i64 id)).heap.size (wr.setCell ⟨w.heap.size, k * 2, none⟩ (.int .i64 id)) w1 := (Below.refl _ _).grown hgr1 (Nat.le_refl _) (fun k hk => by cases hk)
        have r1'' : w1.cell? ⟨g, k * 2 + 1, none⟩ = some (.slice (some ⟨gi, 0, none⟩) nI icap) := by
          rw [bcl hB01 _ _ (by rw [hsz0]; omega), World.cell?_setCell_far _ _ _ _ (by exact hgne')]
          exact r1'
        obtain ⟨l, hl1, hl2⟩ := made_block hown1
        have Hl1 := hide hl1
        have Hl2 := hide hl2
        have hsrc : Hid (∀ j v, (Lib.byteCells (info p.data.toList q.data.toList))[j]? = some v → w1.cell? ((⟨gi, 0, none⟩ : Addr).add j) = some v) := by
          intro j v hj
          have hjl : j < (info p.data.toList q.data.toList).length := by
            have := (List.getElem?_eq_some_iff.1 hj).1
            simpa [Lib.byteCells] using this
          have e1 : v = .int .u8 ((info p.data.toList q.data.toList)[j]).toNat := by
            simp [Lib.byteCells, List.getElem?_eq_getElem hjl] at hj
            exact hj.symm
          rw [e1, Go.WideShapes.add_plain, Nat.zero_add, bcl hB01 _ _ (by rw [hsz0]; omega), World.cell?_setCell_far _ _ _ _ (by show ¬ w.heap.size = gi; omega), bcl hC.bel _ _ hgi]
          exact hib'.out j hjl
        have hlb : Hid ((Lib.byteCells (info p.data.toList q.data.toList)).length = nI) := by
          show _ = _
          rw [← HnI.out]; simp [Lib.byteCells]
        obtain ⟨w2, hcp, hw2, hB12⟩ := copy_step w1 wr.heap.size nI gi icap l _ hl1 hl2 HnI.out hsrc
        have Hw2 := hide hw2
        clear hown1 hl1 hl2 hgr1 hw2
        have hnat : w.heap.size + 0 < wr.heap.size := hzr2
        have hB02 : Below (wr.setCell ⟨w.heap.size, k * 2, none⟩ (.int .i64 id)).heap.size (wr.setCell ⟨w.heap.size, k * 2, none⟩ (.int .i64 id)) w2 := hB01.trans (hB12.mono (by omega))
        have hS2 := row_below_all hB02 hS
        have HS2 := hide hS2
        have ho1 : ∃ x, w2.cell? ⟨w.heap.size, k * 2 + 1, none⟩ = some x := by
          rw [hS2.cellAt (k * 2 + 1) (by omega)]
          exact ⟨_, List.getElem?_eq_getElem (by rw [memCells_length, List.length_append, List.length_cons, List.length_replicate, hCk.out]; omega)⟩
        obtain ⟨x1, ho1⟩ := ho1
        have hf1 := hS2.frozenAt (k * 2 + 1)
        have hP : ClnAt w (w2.setCell ⟨w.heap.size, k * 2 + 1, none⟩ (.slice (some ⟨wr.heap.size, 0, none⟩) nI nI)) L (C ++ [⟨id, some (p, q), .slice (some ⟨wr.heap.size, 0, none⟩) nI nI⟩]) := by
          have hin1 : ∀ x ∈ C, InfoAt w2 x.v x.bytes := fun x hx => (setId_infos hC x hx).below hB02
          have hnew : InfoAt w2 (.slice (some ⟨wr.heap.size, 0, none⟩) nI nI) (some (info p.data.toList q.data.toList)) := copied_info HnI.out Hl2.out (by unfold maxLen; omega) Hw2.out
          have hgS := (hS2.stored (k * 2 + 1) (.slice (some ⟨wr.heap.size, 0, none⟩) nI nI)).2
          refine ClnAt.push hCk.out _ (((hC.bel.setCell (Nat.le_refl _) _).trans (hB02.mono (by rw [hsz0]; omega))).setCell (Nat.le_refl _) _) ?_ (fun x hx => InfoAt.grown (u := .slice (some ⟨w.heap.size, 0, none⟩) L L) hgS hS2 (by decide) (hin1 x hx)) (InfoAt.grown (u := .slice (some ⟨w.heap.size, 0, none⟩) L L) hgS hS2 (by decide) hnew)
          have := (hS2.stored (k * 2 + 1) (.slice (some ⟨wr.heap.size, 0, none⟩) nI nI)).1
          rw [← hCk.out, memCells_set_v _ _ _ (some (p, q))] at this
          rw [← hCk.out]
          exact this
        have HK := hide (keys_snoc (m' := ⟨id, some (p, q), .slice (some ⟨wr.heap.size, 0, none⟩) nI nI⟩) hkey.out hm''.out rfl)
        clear hS2 hS hB02 hB01
        go_wp2
        go_roundw
        case rel => exact ⟨k + 1, _, by go_num, by omega, (by rw [List.length_append, hCk.out]; rfl), hP, HK⟩
        case measure => simp [intOf]; omega
    · go_wp2
      go_ret
      refine ⟨_, _, C, rfl, ⟨?_, hC.info⟩, ?_, hC.bel⟩
      · have e1 : C.length = L := by rw [hCk.out]; omega
        have := hC.own
        rw [e1, Nat.sub_self] at this
        simp at this
        rw [e1]
        exact this
      · have e2 : M.take k = M := List.take_of_length_le (by rw [HL.out]; omega)
        have := hkey.out
        rw [e2] at this
        exact this
end Go.Proofs.YbulkedtwFmt
