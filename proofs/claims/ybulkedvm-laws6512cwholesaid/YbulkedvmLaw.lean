import Derived.Test.YbulkedvmState
import Derived.Deep.RegionHeld3
import Derived.Deep.DrawnRows
import Derived.Lib.SliceRun
import Derived.OpenShut
namespace Go.Proofs.Ybulkedvm
open Go.RowKit
open Go.MuLone
set_option maxRecDepth 100000
set_option linter.unusedVariables false

theorem neq52 (a : Addr) (w : World) : (binOp .neq 52 (.iface 23 (.pointer (some a))) (.iface 23 (.pointer (some a)))).run Yba.prog w = .ok (.bool false) w := by
  simp only [binOp]
  simp [Op.equal, Op.maxDepth, run_equalIn_iface_ptr_same w 9998 a Yba.underlying52 Yba.underlying23 (i := (Yba.prog.info? 23).get!) (by kernel_rfl) (by kernel_rfl) (j := (Yba.prog.info? 25).get!) (by kernel_rfl)]
theorem neq34 (a : Addr) (w : World) : (binOp .neq 34 (.iface 26 (.pointer (some a))) (.iface 26 (.pointer (some a)))).run Yba.prog w = .ok (.bool false) w := by
  simp only [binOp]
  simp [Op.equal, Op.maxDepth, run_equalIn_iface_ptr_same w 9998 a Yba.underlying34 Yba.underlying26 (i := (Yba.prog.info? 26).get!) (by kernel_rfl) (by kernel_rfl) (j := (Yba.prog.info? 28).get!) (by kernel_rfl)]
theorem neq32 (w : World) : (binOp .neq 32 .nilIface .nilIface).run Yba.prog w = .ok (.bool false) w := by
  kernel_rfl
theorem neq23 (a : Addr) (w : World) : (binOp .neq 23 (.pointer (some a)) (.pointer (some a))).run Yba.prog w = .ok (.bool false) w := by
  obtain ⟨j, hj⟩ : ∃ j, Yba.prog.info? 25 = some j := Option.isSome_iff_exists.mp (by kernel_rfl)
  have h : ∀ d : Nat, (Op.equalIn (d + 1) 23 (.pointer (some a)) (.pointer (some a))).run Yba.prog w = .ok true w := fun d => by
    simp [Op.equalIn, run_underlying Yba.underlying23, typeInfo, sizeOf, run_sameAddr_same, hj]
  simp only [binOp]
  simp [Op.equal, Op.maxDepth, h 9999]
theorem neq45 (w : World) : (binOp .neq 45 (.slice none 0 0) (.slice none 0 0)).run Yba.prog w = .ok (.bool false) w := by
  kernel_rfl

def memCells (s : Nat) (a4 : ByteArray) (a5 a6 : Int) (tk : Value) : Array Value :=
  #[.pointer none, .nilIface, .iface 26 (.pointer (some ⟨s, 0, none⟩)), .nilFunc, .nilFunc, .int .i32 0, .int .u32 0, .pointer none, .string a4, .slice none 0 0, .int .u8 0, .int .u8 0, .int .u8 0, .int .u8 0, .int .u8 0, .int .u8 0, .int .u8 0, .int .u8 0, .int .u8 0, .int .u8 0, .int .u8 0, .int .u8 0, .int .u8 0, .int .u8 0, .int .u8 0, .int .u8 0, .int .u8 0, .int .u8 0, .int .u8 0, .int .u8 0, .int .u8 0, .int .u8 0, .int .u8 0, .int .u8 0, .int .u8 0, .int .u8 0, .int .u8 0, .int .u8 0, .int .u8 0, .int .u8 0, .int .u8 0, .int .u8 0, .int .u64 0, .int .u64 0, .slice none 0 0, .int .u64 a5, .int .i64 a6, tk]

theorem cell_alloc_old (w : World) (o : Obj) (b off : Nat) {x : Value} (h : w.cell? ⟨b, off, none⟩ = some x) : (w.alloc o).cell? ⟨b, off, none⟩ = some x :=
  (World.cell?_alloc_old w o ⟨b, off, none⟩ (Nat.ne_of_lt (World.block_lt_of_cell? w ⟨b, off, none⟩ h))).trans h

theorem cell_alloc_new (w : World) (c : Array Value) (t : TypeId) (b off : Nat) {x : Value} (hb : b = w.heap.size) (h : c[off]? = some x) : (w.alloc (.cells c t)).cell? ⟨b, off, none⟩ = some x :=
  (World.cell?_alloc_at (w := w) c t b off hb).trans h

theorem startSt (w : World) (a1 a2 : Int) (a4 : ByteArray) (a5 a6 : Int) (tk : Value) :
    St w a1 a2 a4 a5 a6 w.heap.size (w.heap.size + 1) (w.heap.size + 1 + 1) (w.heap.size + 1 + 1 + 1) (.int .i32 0) tk 0
      ((((w.alloc (.cells #[.int .i64 a2] 25)).alloc (.cells #[.int .i64 a1] 25)).alloc (.cells #[.pointer (some ⟨w.heap.size, 0, none⟩), .int .i64 0] 28)).alloc (.cells (memCells (w.heap.size + 1 + 1) a4 a5 a6 tk) 54)) := by
  have fr : ∀ b o, w.heap.size ≤ b → ((((w.alloc (.cells #[.int .i64 a2] 25)).alloc (.cells #[.int .i64 a1] 25)).alloc (.cells #[.pointer (some ⟨w.heap.size, 0, none⟩), .int .i64 0] 28)).alloc (.cells (memCells (w.heap.size + 1 + 1) a4 a5 a6 tk) 54)).frozen? ⟨b, o, none⟩ = false := by
    intro b o hb
    rw [frozen?_alloc_cells, frozen?_alloc_cells, frozen?_alloc_cells, frozen?_alloc_cells]
    have e : w.heap[b]? = none := Array.getElem?_eq_none hb
    simp only [World.frozen?, e]
  exact ⟨cell_alloc_old _ _ _ _ (cell_alloc_old _ _ _ _ (cell_alloc_old _ _ _ _ (cell_alloc_new w _ _ _ _ rfl rfl))),
    cell_alloc_old _ _ _ _ (cell_alloc_old _ _ _ _ (cell_alloc_new _ _ _ _ _ (by simp only [World.size_alloc]) rfl)),
    cell_alloc_old _ _ _ _ (cell_alloc_new _ _ _ _ _ (by simp only [World.size_alloc]) rfl),
    cell_alloc_old _ _ _ _ (cell_alloc_new _ _ _ _ _ (by simp only [World.size_alloc]) rfl),
    cell_alloc_new _ _ _ _ _ (by simp only [World.size_alloc]) rfl, cell_alloc_new _ _ _ _ _ (by simp only [World.size_alloc]) rfl, cell_alloc_new _ _ _ _ _ (by simp only [World.size_alloc]) rfl, cell_alloc_new _ _ _ _ _ (by simp only [World.size_alloc]) rfl, cell_alloc_new _ _ _ _ _ (by simp only [World.size_alloc]) rfl, cell_alloc_new _ _ _ _ _ (by simp only [World.size_alloc]) rfl, cell_alloc_new _ _ _ _ _ (by simp only [World.size_alloc]) rfl, cell_alloc_new _ _ _ _ _ (by simp only [World.size_alloc]) rfl, cell_alloc_new _ _ _ _ _ (by simp only [World.size_alloc]) rfl, cell_alloc_new _ _ _ _ _ (by simp only [World.size_alloc]) rfl,
    fr _ _ (by omega), fr _ _ (by omega), fr _ _ (by omega), ((((Grown.refl w).alloc _ _).alloc _ _).alloc _ _).alloc _ _, by omega, by omega, by omega, by omega, by omega, by omega, by omega⟩

theorem walk (a0 : Bool) (a1 : Int) (a2 : Int) (a3 : Int) (a4 : ByteArray) (a5 : Int) (a6 : Int) (w1 : (Lit.int .i64 a1).wf = true) (w2 : (Lit.int .i64 a2).wf = true) (w3 : (Lit.int .u8 a3).wf = true) (w4 : a4.size ≤ maxLen) (w5 : (Lit.int .u64 a5).wf = true) (w6 : (Lit.int .i64 a6).wf = true) (w : World) :
    Calls Yba.prog 3 #[.bool a0, .int .i64 a1, .int .i64 a2, .int .u8 a3, .string a4, .int .u64 a5, .int .i64 a6] w fun e w' => e = .returned (.bool true) ∧ Grown w w' := by
  obtain ⟨K, rfl, hK⟩ : ∃ K : Nat, a3 = (K : Int) ∧ K < 256 := ⟨a3.toNat, by have := bounds_u8 w3; omega, by have := bounds_u8 w3; omega⟩
  have q52 := neq52
  have q34 := neq34
  have q32 := neq32
  have q45 := neq45
  have q23 := neq23
  have hst := startSt w a1 a2 a4 a5 a6
  cases a0
  · go_enter Yba.func3, Yba.ntmps3
    go_wp2
    go_loopw [22] (fun i W => ∃ k : Nat, i = .int .i64 k ∧ k ≤ K + 1 ∧ ∃ tk n, St w a1 a2 a4 a5 a6 w.heap.size (w.heap.size + 1) (w.heap.size + 1 + 1) (w.heap.size + 1 + 1 + 1) (.int .i32 0) tk n W ∧ Hid ((tk = .iface 23 (.pointer (some ⟨w.heap.size, 0, none⟩)) ∧ n = 1) ∨ (tk = .nilIface ∧ n = 0 ∧ k = 0 ∧ (⟨w.heap.size, 0, none⟩ : Addr) = ⟨w.heap.size, 0, none⟩ ∧ (1 : Int) = 1))) (fun i _ => K + 1 - (intOf i).toNat)
    case atStart => exact ⟨0, rfl, Nat.zero_le _, _, _, hst _, Or.inr ⟨rfl, rfl, rfl, rfl, rfl⟩⟩
    case round =>
      obtain ⟨k, rfl, hk, tk, n, hS, HD⟩ := hrel
      clear hst
      by_cases hlt : k < K + 1
      · have HC : Hid ((tk = .iface 23 (.pointer (some ⟨w.heap.size, 0, none⟩)) ∧ n = 1) ∨ (tk = .nilIface ∧ n = 0 ∧ (⟨w.heap.size, 0, none⟩ : Addr) = ⟨w.heap.size, 0, none⟩ ∧ (1 : Int) = 1)) := by
          rcases HD.out with h | ⟨h1, h2, h3, h4, h5⟩
          · exact Or.inl h
          · exact Or.inr ⟨h1, h2, h4, h5⟩
        have hT := takes_st ⟨w.heap.size, 0, none⟩ 1 hS HC.out
        go_wp2_with fail
        refine hT.mono ?_
        rintro e w' ⟨rfl, hS'⟩
        have k1 := hS'.s1
        go_wp2
        go_roundw
        case rel => exact ⟨k + 1, by go_num, by omega, _, _, hS', Or.inl ⟨rfl, rfl⟩⟩
        case measure => simp [intOf]; omega
      · have hD : tk = .iface 23 (.pointer (some ⟨w.heap.size, 0, none⟩)) ∧ n = 1 := by
          rcases HD.out with h | ⟨h1, h2, h3, h4, h5⟩
          · exact h
          · omega
        obtain ⟨rfl, rfl⟩ := hD
        clear HD
        have g0 := hS.g0
        have h0 := hS.h0
        have s0 := hS.s0
        have s1 := hS.s1
        have m0 := hS.m0
        have m1 := hS.m1
        have m2 := hS.m2
        have m5 := hS.m5
        have m7 := hS.m7
        have m8 := hS.m8
        have m9 := hS.m9
        have m45 := hS.m45
        have m46 := hS.m46
        have m47 := hS.m47
        have hT := try_free _ wr m5 hS.f5
        have hS2 := hS.mu (.int .i32 1)
        have hU := unlock_held Yba.muLib ⟨w.heap.size + 1 + 1 + 1, 5, none⟩ _ hS2.m5 hS2.f5
        have hG := (hS2.mu (.int .i32 0)).grown
        clear hS2
        go_wp2_with (go_at_call 5; refine hT.mono ?_; rintro e w' ⟨rfl, rfl⟩)
        refine hU.mono ?_
        rintro e w' ⟨rfl, rfl⟩
        go_wp2
        go_ret
        exact ⟨rfl, hG⟩
  · go_enter Yba.func3, Yba.ntmps3
    go_wp2
    go_loopw [22] (fun i W => ∃ k : Nat, i = .int .i64 k ∧ k ≤ K + 1 ∧ ∃ tk n, St w a1 a2 a4 a5 a6 w.heap.size (w.heap.size + 1) (w.heap.size + 1 + 1) (w.heap.size + 1 + 1 + 1) (.int .i32 0) tk n W ∧ Hid ((tk = .iface 23 (.pointer (some ⟨w.heap.size + 1, 0, none⟩)) ∧ n = 0) ∨ (tk = .nilIface ∧ n = 0 ∧ k = 0 ∧ (⟨w.heap.size + 1, 0, none⟩ : Addr) = ⟨w.heap.size, 0, none⟩ ∧ (0 : Int) = 1))) (fun i _ => K + 1 - (intOf i).toNat)
    case atStart => exact ⟨0, rfl, Nat.zero_le _, _, _, hst _, Or.inl ⟨rfl, rfl⟩⟩
    case round =>
      obtain ⟨k, rfl, hk, tk, n, hS, HD⟩ := hrel
      clear hst
      by_cases hlt : k < K + 1
      · have HC : Hid ((tk = .iface 23 (.pointer (some ⟨w.heap.size + 1, 0, none⟩)) ∧ n = 0) ∨ (tk = .nilIface ∧ n = 0 ∧ (⟨w.heap.size + 1, 0, none⟩ : Addr) = ⟨w.heap.size, 0, none⟩ ∧ (0 : Int) = 1)) := by
          rcases HD.out with h | ⟨h1, h2, h3, h4, h5⟩
          · exact Or.inl h
          · exact Or.inr ⟨h1, h2, h4, h5⟩
        have hT := takes_st ⟨w.heap.size + 1, 0, none⟩ 0 hS HC.out
        go_wp2_with fail
        refine hT.mono ?_
        rintro e w' ⟨rfl, hS'⟩
        have k1 := hS'.s1
        go_wp2
        go_roundw
        case rel => exact ⟨k + 1, by go_num, by omega, _, _, hS', Or.inl ⟨rfl, rfl⟩⟩
        case measure => simp [intOf]; omega
      · have hD : tk = .iface 23 (.pointer (some ⟨w.heap.size + 1, 0, none⟩)) ∧ n = 0 := by
          rcases HD.out with h | ⟨h1, h2, h3, h4, h5⟩
          · exact h
          · omega
        obtain ⟨rfl, rfl⟩ := hD
        clear HD
        have g0 := hS.g0
        have h0 := hS.h0
        have s0 := hS.s0
        have s1 := hS.s1
        have m0 := hS.m0
        have m1 := hS.m1
        have m2 := hS.m2
        have m5 := hS.m5
        have m7 := hS.m7
        have m8 := hS.m8
        have m9 := hS.m9
        have m45 := hS.m45
        have m46 := hS.m46
        have m47 := hS.m47
        have hT := try_free _ wr m5 hS.f5
        have hS2 := hS.mu (.int .i32 1)
        have hU := unlock_held Yba.muLib ⟨w.heap.size + 1 + 1 + 1, 5, none⟩ _ hS2.m5 hS2.f5
        have hG := (hS2.mu (.int .i32 0)).grown
        clear hS2
        go_wp2_with (go_at_call 5; refine hT.mono ?_; rintro e w' ⟨rfl, rfl⟩)
        refine hU.mono ?_
        rintro e w' ⟨rfl, rfl⟩
        go_wp2
        go_ret
        exact ⟨rfl, hG⟩
end Go.Proofs.Ybulkedvm
