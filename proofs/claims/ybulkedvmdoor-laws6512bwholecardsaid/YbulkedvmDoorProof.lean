import Derived.Test.YbulkedvmDoorOpen
import Derived.Test.YbulkedvmDoorW29
import Derived.Test.YbulkedvmDoorTie
import Derived.Test.YbulkedvmDoorCards
import Derived.Deep.DeepHandedRow
import Derived.Lib.LaidTab
import Derived.Stop.LaidErr
import Derived.SevenTiedAt
namespace Go.Proofs.YbulkedvmDoor
open Go.ChangeShapes Go.WideShapes Go.ChangeAt Go.RowKit
set_option maxRecDepth 100000

theorem law_big1 (at0 : Option Addr) (n c : Nat) (ab : Option Addr) (nb cb : Nat) (w : World) (h : 4096 < n) :
    Calls Ybad.prog 3 #[.slice at0 n c, .slice ab nb cb] w fun e w' => e = .returned (.bool true) ∧ Below w.heap.size w w' := by
  have hz : (4096 : Int) < (n : Int) := by omega
  go_enter Ybad.func3, Ybad.ntmps3
  go_wp2
  go_ret
  exact ⟨rfl, Below.refl _ _⟩
theorem law_big2 (at0 : Option Addr) (n c : Nat) (ab : Option Addr) (nb cb : Nat) (w : World) (h : n ≤ 4096) (hb : 1048576 < nb) :
    Calls Ybad.prog 3 #[.slice at0 n c, .slice ab nb cb] w fun e w' => e = .returned (.bool true) ∧ Below w.heap.size w w' := by
  have hz : (1048576 : Int) < (nb : Int) := by omega
  go_enter Ybad.func3, Ybad.ntmps3
  go_wp2
  go_ret
  exact ⟨rfl, Below.refl _ _⟩

theorem Ybad.own : ownKnob Ybad.prog.godebug = none := by kernel_rfl
theorem Ybad.laidOut : laidOutB Ybad.prog = true := by kernel_rfl
theorem Ybad.gPow : Ybad.prog.globalNamed powName = some 1 := by kernel_rfl
theorem Ybad.gPowType : (Ybad.prog.globals[1]?).map (·.type) = some 88 := by kernel_rfl
theorem Ybad.cells88 : Ybad.prog.cellsOf 88 = 20 := by kernel_rfl

/-- The cells of a table's datum. -/
def tabCells : DataW Unit → Array Value
  | .agg l => (l.map fun d => match d with | .lit (.int k z) => Value.int k z | _ => .bool false).toArray
  | _ => #[]
def lay (cs : Array Value) : Obj → Obj
  | .cells _ t frozen => .cells cs t frozen
  | o => o

theorem laid_met (os : Os) (args : Array Value) : laidMet Ybad.prog Rows.lawS6512BWholeRow.laid
    (({ World.holding Ybad.prog os ⟨#[], #[], []⟩ with heap := (((World.holding Ybad.prog os ⟨#[], #[], []⟩).heap.modify 1 (lay (tabCells Rows.laid_internal_strconv_uint64pow10))).modify 2 (lay (tabCells Rows.laid_math_bits_deBruijn32tab))).modify 3 (lay (tabCells Rows.laid_math_bits_deBruijn64tab)) } : World).forCall (fun _ _ => 0) ⟨#[], args, []⟩).memory :=
  laidMet_of_run' 8 (by kernel_rfl) (by kernel_rfl)

theorem pow_of_laid {W : World} (h : laidMet Ybad.prog Rows.lawS6512BWholeRow.laid W) : Lib.TabIs Ybad.prog W powName .u64 Lib.pow10Tab :=
  Lib.tabIs_of_head (name := powName) (k := .u64) (zs := Lib.pow10Tab) Ybad.gPow Ybad.gPowType Ybad.underlying88 Ybad.underlying29 Ybad.cells29 Ybad.cells88 (show laidMet Ybad.prog [(powName, Lib.tabData .u64 Lib.pow10Tab)] W from h.tail.tail)

set_option maxHeartbeats 1000000 in
theorem lifted (os : Os) (started : os.Started) (H : Type) (enc : TypeId × Value → H) (F : Stop.Interp) :
    ReturnsInHanded {} Ybad.checked os 3 .any ((OpenSpec.ofChange Rows.lawS6512BWholeSpec).preRow enc Ybad.prog Ybad.f3 Rows.lawS6512BWholeRow.domain false Rows.lawS6512BWholeRow.laid) (((OpenSpec.ofChange Rows.lawS6512BWholeSpec).at F).post enc Ybad.prog Ybad.f3 false true false false) := by
  refine returnsInHanded_of_row (C := Ybad.checked) (s := OpenSpec.ofChange Rows.lawS6512BWholeSpec) Ybad.own started (by kernel_rfl) Ybad.func3
    (witness_row_at (enc := enc) (C := Ybad.checked) false _ #[.slice none 0 0, .slice none 0 0] rfl (by kernel_rfl) (by kernel_rfl) (by kernel_rfl)
      (OpenSpec.preRow_of_B rfl 8 (by kernel_rfl) (by kernel_rfl) (laid_met os _))) ?_
  intro W base args ds gs before hval0 hW _ _ _ hL _ _
  have hval : ∀ (j : Nat) t v, Ybad.f3.params[j]? = some t → args[j]? = some v → Value.okWide Ybad.prog W .any base t v := hval0
  have hW' := hW
  obtain ⟨p, q, hA0, hV0, rfl, hfz, hnd⟩ := hW
  have hA : DataW.TrodAll enc Ybad.prog W 0 (fun _ => true) true Ybad.f3.params.toList args.toList ds p := hA0
  rw [Ybad.params3] at hA hval
  obtain ⟨v0, v1, d0, d1, p0, p1, rfl, rfl, rfl, h0, h1⟩ := trodAll_two hA
  obtain ⟨rfl, rfl⟩ := trodVars_none hV0
  obtain ⟨a0, len, cap, rfl⟩ := okWide_slice Ybad.underlying22 (hval 0 22 v0 rfl rfl)
  obtain ⟨b0, len', cap', rfl⟩ := okWide_slice Ybad.underlying23 (hval 1 23 v1 rfl rfl)
  have h0k := h0
  have h1k := h1
  obtain ⟨f0, hf0⟩ := h0
  obtain ⟨f1, hf1⟩ := h1
  clear hA0 hV0 hval0
  simp only [List.append_nil] at hW'
  obtain ⟨ps, hz, hps, hpu⟩ := pairs_open (x := (d0, p0)) (by simpa [Value.cells] using hf0)
  obtain ⟨bs, hbl, hb0, hbs, _⟩ := bytes_open (x := (d1, p1)) (by simpa [Value.cells] using hf1)
  have htab := pow_of_laid hL
  have hlaw : Calls Ybad.prog 3 #[.slice a0 len cap, .slice b0 len' cap'] W fun e w' => e = .returned (.bool true) ∧ Below W.heap.size W w' := by
    by_cases hbig : 4096 < len
    · exact law_big1 a0 len cap b0 len' cap' W hbig
    · by_cases hbig2 : 1048576 < len'
      · exact law_big2 a0 len cap b0 len' cap' W (by omega) hbig2
      · exact law_small a0 len cap ps b0 len' cap' bs W (by omega) (by omega) hz hps hpu hb0 hbl hbs htab
  have hlt : ∀ x ∈ p0 ++ p1, x.block < W.heap.size := fun x hx => by simpa using hW'.lt x hx
  refine hlaw.mono fun e W' ⟨he, hnx⟩ => ?_
  subst he
  have e1 : ((OpenSpec.ofChange Rows.lawS6512BWholeSpec).at F).fn H ([d0, d1] ++ []) = { results := [.lit (.bool true)], args := [d0, d1] } := rfl
  refine ⟨_, rfl, _, _, _, [], p0 ++ p1, [], hW', ?_, ?_, ?_, hnx.frame _, fun h => by cases h⟩
  · rw [e1]; exact trodAll_mk1 (shut_bool Ybad.underlying4 true)
  · rw [e1]; exact trodAll_mk2 (Below.trod Ybad.laidOut (by kernel_rfl) (of_decide_eq_true (by kernel_rfl)) h0k hnx (fun x hx => hlt x (by simp [hx]))) (Below.trod Ybad.laidOut (by kernel_rfl) (of_decide_eq_true (by kernel_rfl)) h1k hnx (fun x hx => hlt x (by simp [hx])))
  · rw [e1]; rfl

theorem row_holds : Rows.LawS6512BWholeSaid :=
  OpenClaim.holds_of_cond 3 Ybad.f3 rfl rfl rfl rfl rfl rfl rfl ⟨rfl, rfl, rfl, rfl, rfl⟩ rfl rfl rfl rfl rfl (by kernel_rfl) Ybad.func3 (by kernel_rfl)
    (of_decide_eq_true (by kernel_rfl)) (by unfold Func.isWrapper; first | (rw [if_pos (by decide +kernel)]; kernel_rfl) | (rw [if_neg (by decide +kernel)]; exact ⟨rfl, rfl⟩))
    (fun os started H enc _ F0 => by rw [OpenClaim.pre_eq_preRow]; exact lifted os started H enc F0)

/-- ████ THE TIED CARD ████ -/
theorem lawS6512BWhole_card : Rows.LawS6512BWholeCardSaid :=
  Claim7.holds_tied_plain_at .later [] [.data, .data, .data] true Rows.lawS6512BWholeCard.stood.harness false
    row_holds (fun _ h => by cases h) (by kernel_rfl) (fun _ h => by cases h) lawS6512BWhole_row_tie rfl ⟨rfl, rfl⟩ (by kernel_rfl) rfl
    (fun f fn hf hfn => by
      obtain rfl : f = 3 := Option.some.inj ((show Ybad.prog.funcNamed Rows.lawS6512BWholeRow.func = some 3 by kernel_rfl).symm.trans hf) |>.symm
      obtain rfl : fn = Ybad.f3 := (Option.some.inj (Ybad.func3.symm.trans hfn)).symm
      exact ⟨by kernel_rfl, fun j t ht => by
        rw [Ybad.params3] at ht
        rcases j with _ | _ | j
        · obtain rfl : 22 = t := by simpa using ht
          exact (show Ybad.prog.wantsStandIn 22 = false by kernel_rfl)
        · obtain rfl : 23 = t := by simpa using ht
          exact (show Ybad.prog.wantsStandIn 23 = false by kernel_rfl)
        · simp at ht⟩)
    (by kernel_rfl)
end Go.Proofs.YbulkedvmDoor
