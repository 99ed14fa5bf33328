import Derived.Test.YbulkedvmDoorW5
import Derived.Test.YbulkedvmDoorShelf
namespace Go.Proofs.YbulkedvmDoor
open Go Go.RowKit Go.Lib Go.Sort Go.Shelf
set_option maxRecDepth 100000

instance : Inhabited Key := ⟨⟨List.replicate 16 0, rfl⟩⟩
def kcmp (x y : Key) : Int := cmp3 x.num y.num
theorem kcmp_lt (x y : Key) : ltOf kcmp x y = decide (x.num < y.num) := by
  unfold ltOf kcmp cmp3
  by_cases h1 : x.num < y.num
  · simp [h1]
  · by_cases h2 : y.num < x.num <;> simp [h1, h2]

theorem kswo : SWO (ltOf kcmp) where
  irrefl x := by rw [kcmp_lt]; simp
  trans x y z h1 h2 := by rw [kcmp_lt] at *; simp at *; omega
  ntrans x y z h1 h2 := by rw [kcmp_lt] at *; simp at *; omega

theorem ktot (x y : Key) (h1 : ltOf kcmp x y = false) (h2 : ltOf kcmp y x = false) : x = y := by
  rw [kcmp_lt] at h1 h2
  simp at h1 h2
  exact Key.num_inj (by omega)

def sortKeys (l : List Key) : List Key := l.mergeSort fun x y => !(ltOf kcmp) y x

theorem sort_any (blk off cap : Nat) (d : Array Key) (w : World) (hH : HoldsK Key.cells 16 w blk off d) (hblk : blk < w.heap.size) (hsz : d.size < 4611686018427387904) :
    Calls Ybad.prog 13 #[.slice (some ⟨blk, off, none⟩) d.size cap, .func (.func 14) #[] #[]] w fun e w' => e = .returned (.tuple #[]) ∧ ∃ n os, w' = sortWorldK Key.cells 16 w blk off n (sortKeys d.toList).toArray os := by
  have eg : ∀ args w, (callFunc 14 args).run Ybad.prog w = .ok (.enter 14 args) w := enters_of Ybad.func14 (by kernel_rfl) rfl
  have hcmp : CmpLays Ybad.prog 14 #[] Key.cells 16 kcmp blk off d.size w := fun _ _ _ _ x y => compare_any x y _
  exact AnyQ.slices_SortFunc_total Ybad.sortL 16 Ybad.isAgg32 Ybad.sizeOf32 Key.cells Key.cells_length (fun x v hv => by simp [Key.cells, Lib.byteCells] at hv; obtain ⟨b, _, rfl⟩ := hv; rfl) kcmp kswo 14 #[] blk off cap d w eg hcmp hH hblk hsz ktot
end Go.Proofs.YbulkedvmDoor
