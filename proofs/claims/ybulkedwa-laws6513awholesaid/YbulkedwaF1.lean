import Derived.Test.YbulkedwaMem
import Derived.Deep.RegionHeldLaw
import Derived.Laws.Bits64b
import Derived.Laws.BitsLemmas
namespace Go.Proofs.Ybulkedwa
open Go Go.RowKit
set_option maxRecDepth 100000

theorem and63 (p : Nat) (hp : p ≤ 255) : bits .and .i64 (p : Int) 63 = ((p % 64 : Nat) : Int) := by
  have := bits_mask .i64 8 (by decide) (fun n h0 h1 => by rw [IntKind.wrap_i64]; omega) 6 (by decide) p (by omega) (by omega)
  rw [show ((2 : Int) ^ 6 - 1) = 63 by decide, show ((2 : Int) ^ 6) = 64 by decide] at this
  omega
theorem wrapAt (n p width : Nat) (hp : p < n) (hn2 : n ≤ 255) (hw2 : width ≤ 4) : wrap64 (((n : Int) - 1 - p) * width) = (((n - 1 - p) * width : Nat) : Int) := by
  have h1 : (n - 1 - p) * width ≤ 255 * 4 := Nat.mul_le_mul (by omega) hw2
  have h2 : ((n : Int) - 1 - p) * width = (((n - 1 - p) * width : Nat) : Int) := by
    rw [Int.natCast_mul]
    congr 1
    omega
  rw [h2]
  unfold wrap64
  omega

theorem at_any (nb wb n width p : Nat) (w : World) (hn : w.cell? ⟨nb, 0, none⟩ = some (.int .i64 n)) (hw : w.cell? ⟨wb, 0, none⟩ = some (.int .i64 width)) (hp : p < n) (hn2 : n ≤ 255) (hw2 : width ≤ 4) :
    Calls Yba.prog 6 #[.int .i64 p, .pointer (some ⟨nb, 0, none⟩), .pointer (some ⟨wb, 0, none⟩)] w fun e w' => e = .returned (.int .i64 (((n - 1 - p) * width : Nat) : Int)) ∧ w' = w := by
  go_enter Yba.func6, Yba.ntmps6
  go_wp2
  go_ret
  refine ⟨?_, rfl⟩
  show Ending.returned (.int .i64 (wrap64 (((n : Int) - 1 - p) * width))) = _
  rw [wrapAt n p width hp hn2 hw2]

theorem spendW_any (tb : Nat) (L x : Int) (w : World) (hl : w.cell? ⟨tb, 0, none⟩ = some (.int .i64 L)) (hf : w.frozen? ⟨tb, 0, none⟩ = false) (hr : -9223372036854775808 ≤ L - x ∧ L - x ≤ 9223372036854775807) :
    Calls Yba.prog 25 #[.pointer (some ⟨tb, 0, none⟩), .int .i64 x] w fun e w' => e = .returned (.tuple #[]) ∧ w' = w.setCell ⟨tb, 0, none⟩ (.int .i64 (L - x)) := by
  go_enter Yba.func25, Yba.ntmps25
  go_wp2
  go_end0
  exact ⟨rfl, rfl⟩

theorem row_any (pb bb N width at' : Nat) (w : World) (h6 : w.cell? ⟨pb, 6, none⟩ = some (.slice (some ⟨bb, 0, none⟩) N N)) (h5 : w.cell? ⟨pb, 5, none⟩ = some (.int .i64 width)) (hN : N ≤ 2000) (hle : at' + width ≤ N) (hw : 0 < width) :
    Calls Yba.prog 17 #[.pointer (some ⟨pb, 0, none⟩), .int .i64 at'] w fun e w' => (∃ c, e = .returned (.slice (some ⟨bb, at', none⟩) width c)) ∧ ∃ q, w' = w.drewN q := by
  have hne : ¬ N = at' := by omega
  go_enter Yba.func17, Yba.ntmps17
  go_wp2
  go_quiet (fail)
  go_wp2
  go_ret
  refine ⟨⟨N - at', ?_⟩, nq, rfl⟩
  show Ending.returned (.slice (some ⟨bb, at', none⟩) (at' + width - at') (N - at')) = _
  rw [Nat.add_sub_cancel_left]

theorem setBit_any (bb o width c p x : Nat) (w : World) (hx : w.cell? ⟨bb, o + p / 64, none⟩ = some (.int .u64 x)) (hf : w.frozen? ⟨bb, o + p / 64, none⟩ = false) (hp : p / 64 < width) (hp2 : p ≤ 255) (hx64 : x < 18446744073709551616) :
    Calls Yba.prog 18 #[.slice (some ⟨bb, o, none⟩) width c, .int .i64 p] w fun e w' => e = .returned (.tuple #[]) ∧ ∃ q, w' = (w.setCell ⟨bb, o + p / 64, none⟩ (.int .u64 ((x ||| 2 ^ (p % 64) : Nat) : Int))).drewN q := by
  have hand := and63 p hp2
  obtain ⟨r, hr⟩ : ∃ r, p % 64 = r := ⟨_, rfl⟩
  have hr64 : r < 64 := by omega
  rw [hr] at hand ⊢
  have h2 : 2 ^ r < 18446744073709551616 := Nat.pow_lt_pow_right (a := 2) (n := 64) (by omega) hr64
  have h1 : (2 : Int) ^ r = ((2 ^ r : Nat) : Int) := by simp
  obtain ⟨X, hX⟩ : ∃ X, 2 ^ r = X := ⟨_, rfl⟩
  rw [hX] at h1 h2 ⊢
  have hpw : IntKind.u64.wrap ((2 : Int) ^ r) = (X : Int) := by
    rw [h1, IntKind.wrap_u64]
    omega
  have hor : bits .or .u64 (x : Int) (X : Int) = ((x ||| X : Nat) : Int) := bits_or_u64_nat x X hx64 h2
  clear hX h1
  clear hr
  go_enter Yba.func18, Yba.ntmps18
  go_wp2
  go_region
  go_end0
  exact ⟨rfl, 1, rfl⟩

end Go.Proofs.Ybulkedwa
