import Derived.Test.YbulkedvmTakes
import Derived.RowKit3
namespace Go.Proofs.Ybulkedvm
open Go.RowKit
open Go.MuLone
set_option maxRecDepth 100000

/-- What the law's own four blocks hold: the two clocks g and h, the scheduler s, the member m; tk: the member's taking; n: the scheduler's count. -/
structure St (W0 : World) (a1 a2 : Int) (a4 : ByteArray) (a5 a6 : Int) (g h s m : Nat) (u tk : Value) (n : Int) (w : World) : Prop where
  g0 : w.cell? ⟨g, 0, none⟩ = some (.int .i64 a2)
  h0 : w.cell? ⟨h, 0, none⟩ = some (.int .i64 a1)
  s0 : w.cell? ⟨s, 0, none⟩ = some (.pointer (some ⟨g, 0, none⟩))
  s1 : w.cell? ⟨s, 1, none⟩ = some (.int .i64 n)
  m0 : w.cell? ⟨m, 0, none⟩ = some (.pointer none)
  m1 : w.cell? ⟨m, 1, none⟩ = some .nilIface
  m2 : w.cell? ⟨m, 2, none⟩ = some (.iface 26 (.pointer (some ⟨s, 0, none⟩)))
  m5 : w.cell? ⟨m, 5, none⟩ = some u
  m7 : w.cell? ⟨m, 7, none⟩ = some (.pointer none)
  m8 : w.cell? ⟨m, 8, none⟩ = some (.string a4)
  m9 : w.cell? ⟨m, 9, none⟩ = some (.slice none 0 0)
  m45 : w.cell? ⟨m, 45, none⟩ = some (.int .u64 a5)
  m46 : w.cell? ⟨m, 46, none⟩ = some (.int .i64 a6)
  m47 : w.cell? ⟨m, 47, none⟩ = some tk
  f5 : w.frozen? ⟨m, 5, none⟩ = false
  f47 : w.frozen? ⟨m, 47, none⟩ = false
  fs : w.frozen? ⟨s, 1, none⟩ = false
  grown : Grown W0 w
  ls : W0.heap.size ≤ s
  lm : W0.heap.size ≤ m
  gs : g ≠ s
  gm : g ≠ m
  hs : h ≠ s
  hm : h ≠ m
  sm : s ≠ m

variable {W0 : World} {a1 a2 : Int} {a4 : ByteArray} {a5 a6 : Int} {g h s m : Nat} {u tk : Value} {n : Int} {w : World}

theorem cell_set (w : World) (a b : Addr) (v : Value) {x : Value} (hn : a ≠ b) (hb : w.cell? b = some x) : (w.setCell a v).cell? b = some x :=
  (World.cell?_setCell_other w a b v hn).trans hb

/-- The lock's word written. -/
theorem St.mu (H : St W0 a1 a2 a4 a5 a6 g h s m u tk n w) (v : Value) : St W0 a1 a2 a4 a5 a6 g h s m v tk n (w.setCell ⟨m, 5, none⟩ v) := by
  have key : ∀ (b : Addr) (x : Value), (⟨m, 5, none⟩ : Addr) ≠ b → w.cell? b = some x → (w.setCell ⟨m, 5, none⟩ v).cell? b = some x :=
    fun b x hn hb => cell_set _ _ _ _ hn hb
  exact ⟨key _ _ (by simp) H.g0, key _ _ (by simp) H.h0, key _ _ (by simp) H.s0, key _ _ (by simp) H.s1, key _ _ (by simp) H.m0, key _ _ (by simp) H.m1, key _ _ (by simp) H.m2, World.cell?_setCell_same _ _ _ H.m5, key _ _ (by simp) H.m7, key _ _ (by simp) H.m8, key _ _ (by simp) H.m9, key _ _ (by simp) H.m45, key _ _ (by simp) H.m46, key _ _ (by simp) H.m47, by simp [H.f5], by simp [H.f47], by simp [H.fs], H.grown.setCell H.lm _, H.ls, H.lm, H.gs, H.gm, H.hs, H.hm, H.sm⟩

/-- The scheduler's count written. -/
theorem St.count (H : St W0 a1 a2 a4 a5 a6 g h s m u tk n w) (n' : Int) : St W0 a1 a2 a4 a5 a6 g h s m u tk n' (w.setCell ⟨s, 1, none⟩ (.int .i64 n')) := by
  have key : ∀ (b : Addr) (x : Value), (⟨s, 1, none⟩ : Addr) ≠ b → w.cell? b = some x → (w.setCell ⟨s, 1, none⟩ (.int .i64 n')).cell? b = some x :=
    fun b x hn hb => cell_set _ _ _ _ hn hb
  exact ⟨key _ _ (by simp) H.g0, key _ _ (by simp) H.h0, key _ _ (by simp) H.s0, World.cell?_setCell_same _ _ _ H.s1, key _ _ (by simp) H.m0, key _ _ (by simp [H.sm]) H.m1, key _ _ (by simp) H.m2, key _ _ (by simp) H.m5, key _ _ (by simp) H.m7, key _ _ (by simp) H.m8, key _ _ (by simp) H.m9, key _ _ (by simp) H.m45, key _ _ (by simp) H.m46, key _ _ (by simp) H.m47, by simp [H.f5], by simp [H.f47], by simp [H.fs], H.grown.setCell H.ls _, H.ls, H.lm, H.gs, H.gm, H.hs, H.hm, H.sm⟩

/-- The member's taking written. -/
theorem St.take (H : St W0 a1 a2 a4 a5 a6 g h s m u tk n w) (tk' : Value) : St W0 a1 a2 a4 a5 a6 g h s m u tk' n (w.setCell ⟨m, 47, none⟩ tk') := by
  have key : ∀ (b : Addr) (x : Value), (⟨m, 47, none⟩ : Addr) ≠ b → w.cell? b = some x → (w.setCell ⟨m, 47, none⟩ tk').cell? b = some x :=
    fun b x hn hb => cell_set _ _ _ _ hn hb
  exact ⟨key _ _ (by simp) H.g0, key _ _ (by simp) H.h0, key _ _ (by simp) H.s0, key _ _ (by simp) H.s1, key _ _ (by simp) H.m0, key _ _ (by simp) H.m1, key _ _ (by simp) H.m2, key _ _ (by simp) H.m5, key _ _ (by simp) H.m7, key _ _ (by simp) H.m8, key _ _ (by simp) H.m9, key _ _ (by simp) H.m45, key _ _ (by simp) H.m46, World.cell?_setCell_same _ _ _ H.m47, by simp [H.f5], by simp [H.f47], by simp [H.fs], H.grown.setCell H.lm _, H.ls, H.lm, H.gs, H.gm, H.hs, H.hm, H.sm⟩

/-- takes, at what the law's blocks hold. -/
theorem takes_st (p : Addr) (N : Int) (H : St W0 a1 a2 a4 a5 a6 g h s m (.int .i32 0) tk n w)
    (hc : (tk = .iface 23 (.pointer (some p)) ∧ n = N) ∨ (tk = .nilIface ∧ n = 0 ∧ p = ⟨g, 0, none⟩ ∧ N = 1)) :
    Calls Yba.prog 4 #[.pointer (some ⟨m, 0, none⟩)] w fun e w' => e = .returned (.iface 23 (.pointer (some p))) ∧ St W0 a1 a2 a4 a5 a6 g h s m (.int .i32 0) (.iface 23 (.pointer (some p))) N w' := by
  rcases hc with ⟨rfl, rfl⟩ | ⟨rfl, rfl, rfl, rfl⟩
  · refine (takes_set m p w H.m5 H.f5 H.m47).mono ?_
    rintro e w' ⟨rfl, rfl⟩
    exact ⟨rfl, (H.mu _).mu _⟩
  · refine (takes_new m s ⟨g, 0, none⟩ 0 w H.m5 H.f5 H.m47 H.f47 H.m2 H.s0 H.s1 H.fs).mono ?_
    rintro e w' ⟨rfl, rfl⟩
    have e1 : wrap64 (0 + 1) = 1 := by simp [wrap64]
    rw [e1]
    exact ⟨rfl, (((H.mu (.int .i32 1)).count 1).take (.iface 23 (.pointer (some ⟨g, 0, none⟩)))).mu (.int .i32 0)⟩
end Go.Proofs.Ybulkedvm
