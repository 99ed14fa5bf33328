import Derived.Test.YbulkedtwFmtOpen
import Derived.Test.YbulkedtwFmtTie
import Derived.Test.YbulkedtwFmtCards
import Derived.Stop.JoinedAt
import Derived.Stop.Texts
import Derived.Stop.JoinedTold
import Derived.Stop.ErrReads
import Derived.Stop.LaidErr
import Derived.SevenToldRow
import Derived.SevenTiedAt
namespace Go.Proofs.YbulkedtwFmt
open Go.ChangeShapes Go.WideShapes Go.ChangeAt Go.RowKit Go.Kit
open Go.Extern.Stop Go.Stop Go.Extern

theorem Ybaf.own : ownKnob Ybaf.prog.godebug = none := by kernel_rfl
theorem Ybaf.laidOut : laidOutB Ybaf.pinned.checked.prog = true := by kernel_rfl
theorem Ybaf.stops : Ybaf.pinned.checked.prog.stops = ["fmt.errorf"] := by kernel_rfl
theorem Ybaf.stopKnobs : Ybaf.pinned.checked.prog.stopKnobs = [] := by kernel_rfl
theorem Ybaf.quiet (os : Os) : Stop.quiet Ybaf.pinned.checked.prog os := by
  intro k hk
  rw [Ybaf.stopKnobs] at hk
  cases hk
theorem Ybaf.gE : Ybaf.prog.globalNamed (Rows.lawS6509ARoundTripSpec.vars.headD "") = some 0 := by kernel_rfl
theorem Ybaf.gEType : (Ybaf.prog.globals[0]?).map (·.type) = some 46 := by kernel_rfl
theorem Ybaf.cells66 : Ybaf.prog.cellsOf 66 = 1 := by kernel_rfl
theorem Ybaf.row64 (u : TypeId) (h : Ybaf.prog.typeName? 3 u = some (match (Rows.laid_example_com_quorumline_quorumline_internal_codec_errShort : DataW Unit) with | .iface n _ => n | _ => "")) : u = 64 :=
  typeName_ptr_named (nm := "errors.errorString") (by kernel_rfl) (by kernel_rfl) (by decide) u (h.trans (congrArg some (by decide)))

theorem laid_met (os : Os) (args : Array Value) : laidMet Ybaf.prog Rows.lawS6509ARoundTripRow.laid
    (({ World.holding Ybaf.prog os ⟨#[.cells #[.string ⟨#[112, 97, 121, 108, 111, 97, 100, 32, 101, 110, 100, 115, 32, 105, 110, 115, 105, 100, 101, 32, 97, 32, 102, 105, 101, 108, 100]⟩] 66], #[], []⟩ with heap := (World.holding Ybaf.prog os ⟨#[.cells #[.string ⟨#[112, 97, 121, 108, 111, 97, 100, 32, 101, 110, 100, 115, 32, 105, 110, 115, 105, 100, 101, 32, 97, 32, 102, 105, 101, 108, 100]⟩] 66], #[], []⟩).heap.modify 0 fun
      | .cells _ t frozen => .cells #[.iface 64 (.pointer (some ⟨(World.holding Ybaf.prog default ⟨#[], #[], []⟩).heap.size, 0, none⟩))] t frozen
      | o => o } : World).forCall (fun _ _ => 0) ⟨#[], args, []⟩).memory :=
  laidMet_of_run (ps := [.cell 0 0, .cell (World.holding Ybaf.prog default ⟨#[], #[], []⟩).heap.size 0]) 8 (by kernel_rfl) (by kernel_rfl) (by kernel_rfl)


set_option maxRecDepth 100000 in
theorem t_lifted (os : Os) (started : os.Started) (H : Type) (enc : TypeId × Value → H) :
    ReturnsInTold none {} Ybaf.checked os 4 .any Input.okWide ((OpenSpec.ofChange Rows.lawS6509ARoundTripSpec).preRow enc Ybaf.prog Ybaf.f4 [] false Rows.lawS6509ARoundTripRow.laid) (fun F => ((OpenSpec.ofChange Rows.lawS6509ARoundTripSpec).at F).post enc Ybaf.prog Ybaf.f4 false true false false) (aloneAtReturn Ybaf.prog) nothingAlways := by
  refine returnsInTold_of_row (C := Ybaf.checked) (s := OpenSpec.ofChange Rows.lawS6509ARoundTripSpec) (by kernel_rfl) Ybaf.own started (by kernel_rfl) Ybaf.func4
    (OpenSpec.witness_stopped_at (enc := enc) (C := Ybaf.checked) false _ #[.slice none 0 0, .slice none 0 0] rfl (by kernel_rfl) (by kernel_rfl) (by kernel_rfl)
      (OpenSpec.preRow_of_B rfl 8 (by kernel_rfl) (by kernel_rfl) (laid_met os _))) ?_
  intro F W base args ds gs before _ _ hval0 hW _ _ hsz0 hL _
  have hval : ∀ (j : Nat) t v, Ybaf.f4.params[j]? = some t → args[j]? = some v → Value.okWide Ybaf.prog W .any base t v := hval0
  have hW' := hW
  obtain ⟨p, q, hA0, hV0, rfl, hfz, hnd⟩ := hW
  have hA : DataW.TrodAll enc Ybaf.prog W 0 (fun _ => true) true Ybaf.f4.params.toList args.toList ds p := hA0
  have hV : DataW.TrodVars enc Ybaf.prog W (fun _ => true) Rows.lawS6509ARoundTripSpec.vars gs q := hV0
  have hsz : (DataW.weightsEach Ybaf.prog (Ybaf.f4.params.toList ++ (OpenSpec.ofChange Rows.lawS6509ARoundTripSpec).bare.plain.varTypes Ybaf.prog) (ds ++ gs)).all (· ≤ reachBytes) = true := hsz0
  rw [Ybaf.params4] at hA hval hsz
  obtain ⟨v0, v1, d0, d1, p0, p1, rfl, rfl, rfl, h0, h1⟩ := trodAll_two hA
  obtain ⟨a1, s1, hv1, hc1, hs1, hz1⟩ := laid_sentinel hL Ybaf.gE Ybaf.gEType Ybaf.underlying46 Ybaf.row64 Ybaf.underlying64 Ybaf.underlying66 rfl rfl Ybaf.underlying9 Ybaf.cells66 Ybaf.cells9
  obtain ⟨rfl, rfl⟩ := hV.unique (vars_read1 enc Ybaf.gE Ybaf.gEType Ybaf.underlying46 hv1 trivial _)
  have hg0 : W.cell? ⟨0, 0, none⟩ = some (.iface 64 (.pointer (some a1))) := by simpa using World.var?_cell Ybaf.gE hv1 0
  obtain ⟨a0, len, cap, rfl⟩ := okWide_slice Ybaf.underlying35 (hval 0 35 v0 rfl rfl)
  obtain ⟨b0, len', cap', rfl⟩ := okWide_slice Ybaf.underlying23 (hval 1 23 v1 rfl rfl)
  have h0k := h0
  have h1k := h1
  obtain ⟨f0, hf0⟩ := h0
  obtain ⟨f1, hf1⟩ := h1
  obtain ⟨ID, PA, QA, hrs, hw1, hw2⟩ := rs_open (x := (d0, p0)) (by simpa [Value.cells] using hf0)
  obtain ⟨SK, hsk, hw3⟩ := skip_open (x := (d1, p1)) (by simpa [Value.cells] using hf1)
  have hr0 : ∀ n ∈ d0.weights Ybaf.prog 35, n ≤ reachBytes := fun n hn => by
    have := List.all_eq_true.1 hsz _ (DataW.weights_mem_each (j := 0) (t := 35) rfl rfl n hn)
    simpa using this
  have hr1 : ∀ n ∈ d1.weights Ybaf.prog 23, n ≤ reachBytes := fun n hn => by
    have := List.all_eq_true.1 hsz _ (DataW.weights_mem_each (j := 1) (t := 23) rfl rfl n hn)
    simpa using this
  have hr47 := reachBytes_lt
  have hb37 : Ybaf.prog.bytesOf 37 = 40 := by kernel_rfl
  have hb4 : Ybaf.prog.bytesOf 4 = 1 := by kernel_rfl
  have hlen : len ≤ 140737488355328 := by
    rcases Nat.eq_zero_or_pos len with h | h
    · omega
    · obtain ⟨m, h1, h2⟩ := hw2 h
      have := hr0 _ h2
      rw [hb37] at this
      omega
  have hlen' : len' ≤ 140737488355328 := by
    rcases Nat.eq_zero_or_pos len' with h | h
    · omega
    · obtain ⟨m, h1, h2⟩ := hw3 h
      have := hr1 _ h2
      rw [hb4] at this
      omega
  have hlaw : Calls Ybaf.prog 4 #[.slice a0 len cap, .slice b0 len' cap'] W fun e w' => e = .returned (.bool true) ∧ Below W.heap.size W w' := by
    by_cases hbig : 16384 < len
    · exact law_big a0 b0 len cap len' cap' W hbig hlen
    · exact law_any a0 b0 len cap len' cap' ID PA QA SK _ _ W (by omega) hlen' hrs (fun i hi => ⟨by have := hr0 _ (hw1 i hi).1; omega, by have := hr0 _ (hw1 i hi).2; omega⟩) hsk hg0
  clear hA0 hV0 hval0 hsz0
  refine hlaw.mono fun e W' ⟨he, hnx⟩ => ?_
  subst he
  have hlt0 : ∀ x ∈ p0, x.block < W.heap.size := fun x hx => by simpa using hW'.lt x (by simp [hx])
  have hlt1 : ∀ x ∈ p1, x.block < W.heap.size := fun x hx => by simpa using hW'.lt x (by simp [hx])
  refine ⟨_, rfl, _, _, _, [], p0 ++ p1, [.cell 0 0], hW', ?_, ?_, ?_, hnx.frame _, fun h => by cases h⟩
  · exact trodAll_mk1 (shut_bool Ybaf.underlying4 true)
  · exact trodAll_mk2 (Below.trod Ybaf.laidOut (by kernel_rfl) (of_decide_eq_true (by kernel_rfl)) h0k hnx hlt0) (Below.trod Ybaf.laidOut (by kernel_rfl) (of_decide_eq_true (by kernel_rfl)) h1k hnx hlt1)
  · exact vars_read1 enc Ybaf.gE Ybaf.gEType Ybaf.underlying46 (var?_below hnx Ybaf.gE (World.block_lt_of_cell? _ _ hg0) hv1) trivial _

theorem lawS6509ARoundTrip_told : Rows.LawS6509ARoundTripToldSaid :=
  Claim7.holds_of_told_tied_any_at .later 4 Ybaf.f4 "fmt.errorf" [] [] _ _ _ _ _ (by kernel_rfl) rfl rfl rfl Ybaf.laidOut (by kernel_rfl) rfl ⟨rfl, rfl, rfl, rfl, rfl, rfl, rfl⟩ rfl rfl (by kernel_rfl) (by kernel_rfl) Ybaf.func4 (by kernel_rfl)
    (of_decide_eq_true (by kernel_rfl)) (of_decide_eq_true (by kernel_rfl)) Ybaf.stops.symm rfl Ybaf.stopKnobs.symm (by kernel_rfl)
    (by kernel_rfl) (by kernel_rfl) (by kernel_rfl) (by kernel_rfl) (by kernel_rfl) (by kernel_rfl) (by kernel_rfl) (by kernel_rfl) (by kernel_rfl) rfl (by kernel_rfl) rfl rfl
    rfl rfl
    rfl (by kernel_rfl) (by kernel_rfl) (by kernel_rfl) (by decide) (by kernel_rfl) lawS6509ARoundTrip_row_tie
    (OpenClaim.moreEntering_of (by kernel_rfl) (by kernel_rfl) (by kernel_rfl) (by kernel_rfl) (by kernel_rfl) (by kernel_rfl) (by kernel_rfl) (by kernel_rfl) (by kernel_rfl) (by kernel_rfl))
    ⟨_, WideRow.started_initial, Ybaf.quiet _⟩
    (fun os started _ H enc _ => t_lifted os started H enc)
end Go.Proofs.YbulkedtwFmt
