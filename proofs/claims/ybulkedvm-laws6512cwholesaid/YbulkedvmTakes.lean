import Derived.Test.YbulkedvmRows
import Derived.Test.YbulkedvmLocks
import Derived.Conc.MuLone
import Derived.LaidEql
import Derived.WalkKit
namespace Go.Proofs.Ybulkedvm
open Go.RowKit
open Go.MuLone
set_option maxRecDepth 100000

theorem newLock_any (s : Nat) (g : Addr) (n : Int) (w : World)
    (h0 : w.cell? ⟨s, 0, none⟩ = some (.pointer (some g))) (h1 : w.cell? ⟨s, 1, none⟩ = some (.int .i64 n)) (f1 : w.frozen? ⟨s, 1, none⟩ = false) :
    Calls Yba.prog 43 #[.pointer (some ⟨s, 0, none⟩)] w fun e w' => e = .returned (.iface 23 (.pointer (some g))) ∧ w' = w.setCell ⟨s, 1, none⟩ (.int .i64 (wrap64 (n + 1))) := by
  go_enter Yba.func43, Yba.ntmps43
  go_wp2
  go_ret
  exact ⟨rfl, rfl⟩

theorem eqNil (t : TypeId) (v : Value) (w : World) : (binOp .eql 52 (.iface t v) .nilIface).run Yba.prog w = .ok (.bool false) w := by
  kernel_rfl
theorem eqNilNil (w : World) : (binOp .eql 52 .nilIface .nilIface).run Yba.prog w = .ok (.bool true) w := by
  kernel_rfl

theorem methodNewLock (a : Addr) (w : World) : (method 322 26 (.pointer (some a)) "NewLock").run Yba.prog w = .ok (43, .pointer (some a)) w := by
  kernel_rfl

theorem takes_set (m : Nat) (a : Addr) (w : World)
    (h5 : w.cell? ⟨m, 5, none⟩ = some (.int .i32 0)) (f5 : w.frozen? ⟨m, 5, none⟩ = false)
    (h47 : w.cell? ⟨m, 47, none⟩ = some (.iface 23 (.pointer (some a)))) :
    Calls Yba.prog 4 #[.pointer (some ⟨m, 0, none⟩)] w fun e w' => e = .returned (.iface 23 (.pointer (some a))) ∧ w' = (w.setCell ⟨m, 5, none⟩ (.int .i32 1)).setCell ⟨m, 5, none⟩ (.int .i32 0) := by
  have hq := eqNil
  go_enter_defers Yba.func4, Yba.ntmps4
  go_wp2_with (go_at_call 7; refine (lock_free Yba.muLib ⟨m, 5, none⟩ _ h5 f5).mono ?_; rintro e w' ⟨rfl, rfl⟩)
  refine leaves_cons (f := 6) (args := #[.pointer (some ⟨m, 5, none⟩)]) (by simp) (by simp [go_sem]) ?_
  refine (unlock_deferred Yba.muLib ⟨m, 5, none⟩ .returning _ ?_ ?_).mono ?_
  · exact World.cell?_setCell_same w ⟨m, 5, none⟩ (.int .i32 1) h5
  · simp [f5]
  rintro e u' w'' ⟨rfl, rfl, rfl⟩
  exact ⟨_, results_tmp rfl _ _ _, rfl, rfl⟩

theorem takes_new (m s : Nat) (g : Addr) (n : Int) (w : World)
    (h5 : w.cell? ⟨m, 5, none⟩ = some (.int .i32 0)) (f5 : w.frozen? ⟨m, 5, none⟩ = false)
    (h47 : w.cell? ⟨m, 47, none⟩ = some .nilIface) (f47 : w.frozen? ⟨m, 47, none⟩ = false)
    (h2 : w.cell? ⟨m, 2, none⟩ = some (.iface 26 (.pointer (some ⟨s, 0, none⟩))))
    (h0 : w.cell? ⟨s, 0, none⟩ = some (.pointer (some g))) (h1 : w.cell? ⟨s, 1, none⟩ = some (.int .i64 n)) (f1 : w.frozen? ⟨s, 1, none⟩ = false) :
    Calls Yba.prog 4 #[.pointer (some ⟨m, 0, none⟩)] w fun e w' => e = .returned (.iface 23 (.pointer (some g))) ∧
      w' = (((w.setCell ⟨m, 5, none⟩ (.int .i32 1)).setCell ⟨s, 1, none⟩ (.int .i64 (wrap64 (n + 1)))).setCell ⟨m, 47, none⟩ (.iface 23 (.pointer (some g)))).setCell ⟨m, 5, none⟩ (.int .i32 0) := by
  have hq := eqNilNil
  have hm := methodNewLock
  go_enter_defers Yba.func4, Yba.ntmps4
  go_wp2_with (go_at_call 7; refine (lock_free Yba.muLib ⟨m, 5, none⟩ _ h5 f5).mono ?_; rintro e w' ⟨rfl, rfl⟩)
  refine (newLock_any s g n _ ?_ ?_ ?_).mono ?_
  · exact (World.cell?_setCell_other _ ⟨m, 5, none⟩ ⟨s, 0, none⟩ _ (by simp)).trans h0
  · exact (World.cell?_setCell_other _ ⟨m, 5, none⟩ ⟨s, 1, none⟩ _ (by simp)).trans h1
  · simp [f1]
  rintro e w' ⟨rfl, hw⟩
  have k47 : w'.cell? ⟨m, 47, none⟩ = some .nilIface := by
    rw [hw, World.cell?_setCell_other _ ⟨s, 1, none⟩ ⟨m, 47, none⟩ _ (by simp), World.cell?_setCell_other _ ⟨m, 5, none⟩ ⟨m, 47, none⟩ _ (by simp)]
    exact h47
  have k5 : w'.cell? ⟨m, 5, none⟩ = some (.int .i32 1) := by
    rw [hw, World.cell?_setCell_other _ ⟨s, 1, none⟩ ⟨m, 5, none⟩ _ (by simp)]
    exact World.cell?_setCell_same w ⟨m, 5, none⟩ (.int .i32 1) h5
  have g47 : w'.frozen? ⟨m, 47, none⟩ = false := by rw [hw]; simp [f47]
  have g5 : w'.frozen? ⟨m, 5, none⟩ = false := by rw [hw]; simp [f5]
  have HW : Hid (w' = (w.setCell ⟨m, 5, none⟩ (.int .i32 1)).setCell ⟨s, 1, none⟩ (.int .i64 (wrap64 (n + 1)))) := hw
  clear hw
  go_wp2
  refine leaves_cons (f := 6) (args := #[.pointer (some ⟨m, 5, none⟩)]) (by simp) (by simp [go_sem]) ?_
  refine (unlock_deferred Yba.muLib ⟨m, 5, none⟩ .returning _ ?_ ?_).mono ?_
  · exact (World.cell?_setCell_other _ ⟨m, 47, none⟩ ⟨m, 5, none⟩ _ (by simp)).trans k5
  · simp [g5]
  rintro e u' w'' ⟨rfl, rfl, rfl⟩
  exact ⟨_, results_tmp rfl _ _ _, rfl, by rw [HW.out]⟩
theorem itry_free (m : Nat) (w : World)
    (h5 : w.cell? ⟨m, 5, none⟩ = some (.int .i32 0)) (f5 : w.frozen? ⟨m, 5, none⟩ = false) :
    Calls Yba.prog 8 #[.pointer (some ⟨m, 5, none⟩)] w fun e w' => e = .returned (.bool true) ∧ w' = w.setCell ⟨m, 5, none⟩ (.int .i32 1) := by
  have hd : ∀ w : World, (callFunc 11 #[]).run Yba.prog w = .ok (.value (.tuple #[])) w := disable Yba.muLib
  have he : ∀ w : World, (callFunc 12 #[]).run Yba.prog w = .ok (.value (.tuple #[])) w := enable Yba.muLib
  have ha : ∀ (a : Addr) (w : World), (callFunc 14 #[.pointer (some a)]).run Yba.prog w = .ok (.value (.tuple #[])) w := acquire Yba.muLib
  have hcas := run_call_cas_hit (P := Yba.prog) Yba.func13 (by kernel_rfl) (by kernel_rfl) (by kernel_rfl) .i32 (by kernel_rfl) (y := 1) h5 f5
  have hc' : (w.setCell ⟨m, 5, none⟩ (.int .i32 1)).cell? ⟨m, 5, none⟩ = some (.int .i32 1) := by simp [go_sem, h5]
  have hcv := run_convert_to_unsafe (P := Yba.prog) (src := 59) (dst := 63) Yba.underlying59 Yba.underlying63 (by kernel_rfl) hc'
  go_enter Yba.func8, Yba.ntmps8
  go_wp2
  go_ret
  exact ⟨rfl, rfl⟩

theorem try_free (m : Nat) (w : World)
    (h5 : w.cell? ⟨m, 5, none⟩ = some (.int .i32 0)) (f5 : w.frozen? ⟨m, 5, none⟩ = false) :
    Calls Yba.prog 5 #[.pointer (some ⟨m, 5, none⟩)] w fun e w' => e = .returned (.bool true) ∧ w' = w.setCell ⟨m, 5, none⟩ (.int .i32 1) := by
  go_enter Yba.func5, Yba.ntmps5
  go_wp2_with (go_at_call 8; refine (itry_free m _ h5 f5).mono ?_; rintro e w' ⟨rfl, rfl⟩)
  go_ret
  exact ⟨rfl, rfl⟩

end Go.Proofs.Ybulkedvm
