import Derived.Test.YbulkedvmDoorW28
import Derived.ProofKit
import Derived.Deep.Strs
import Derived.SizedLaws
namespace Go.Proofs.YbulkedvmDoor
open Go Go.RowKit Go.ChangeShapes Go.WideShapes Go.Deep

theorem Ybad.cells31 : Ybad.prog.cellsOf 31 = 17 := by kernel_rfl
theorem Ybad.cells28 : Ybad.prog.cellsOf 28 = 16 := by kernel_rfl
theorem Ybad.cells29 : Ybad.prog.cellsOf 29 = 1 := by kernel_rfl
theorem Ybad.cells5 : Ybad.prog.cellsOf 5 = 1 := by kernel_rfl

theorem u8_wf {x : Int} (h : (Lit.int .u8 x).wf = true) : 0 ≤ x ∧ x < 256 := by
  have h1 : IntKind.u8.min = 0 := rfl
  have h2 : IntKind.u8.max = 255 := rfl
  simp only [Lit.wf, Bool.and_eq_true, decide_eq_true_eq] at h
  omega
theorem u64_wf {x : Int} (h : (Lit.int .u64 x).wf = true) : 0 ≤ x ∧ x < 18446744073709551616 := by
  have h1 : IntKind.u64.min = 0 := rfl
  have h2 : IntKind.u64.max = 18446744073709551615 := rfl
  simp only [Lit.wf, Bool.and_eq_true, decide_eq_true_eq] at h
  omega

section
variable {H : Type} {enc : TypeId × Value → H} {W : World}

theorem byte_of {fuel : Nat} {cs : List Value} {x : DataW H × List MemPlace} (h : DataW.trod enc Ybad.prog W 0 (fun _ => true) true fuel 5 cs = some x) : ∃ b : UInt8, cs = [.int .u8 (b.toNat : Nat)] := by
  obtain ⟨z, e, _, hw⟩ := DataW.trod_int Ybad.underlying5 h
  obtain ⟨h0, h1⟩ := u8_wf hw
  refine ⟨UInt8.ofNat z.toNat, ?_⟩
  rw [e, UInt8.toNat_ofNat']
  congr 2
  omega

theorem elem28 {fuel : Nat} {cs : List Value} {x : DataW H × List MemPlace} (h : DataW.trod enc Ybad.prog W 0 (fun _ => true) true fuel 28 cs = some x) : ∃ k : Key, cs = k.cells := by
  cases fuel with
  | zero => simp [DataW.trod] at h
  | succ fuel =>
    simp only [DataW.trod, Ybad.underlying28, Ybad.cells5, Ybad.cells28, Nat.mul_one] at h
    split at h
    · rename_i hl
      obtain ⟨xs, hm, hx⟩ := Option.map_eq_some_iff.1 h
      have each : ∀ i, i < 16 → ∃ b : UInt8, cs[i]? = some (.int .u8 (b.toNat : Nat)) := by
        intro i hi
        obtain ⟨b, hb, hf⟩ := Lib.mapM_at hm i i (by simp [hi])
        obtain ⟨z, hc⟩ := byte_of hf
        refine ⟨z, ?_⟩
        have := congrArg (·[0]?) hc
        simpa [List.getElem?_take, List.getElem?_drop] using this
      obtain ⟨Y, hY⟩ := choose_lt (α := UInt8) each
      refine ⟨⟨(List.range 16).map Y, by simp⟩, ?_⟩
      apply List.ext_getElem?
      intro i
      by_cases hi : i < 16
      · rw [hY i hi]
        simp [Key.cells, Lib.byteCells, hi]
      · rw [List.getElem?_eq_none (by omega), List.getElem?_eq_none (by rw [Key.cells_length]; omega)]
    · cases h

theorem elem31 {fuel : Nat} {cs : List Value} {x : DataW H × List MemPlace} (h : DataW.trod enc Ybad.prog W 0 (fun _ => true) true fuel 31 cs = some x) : ∃ p : KN, cs = pairCells p ∧ p.2 < 18446744073709551616 := by
  obtain ⟨y0, y1, n, hx, hl, h0, h1⟩ := trod_struct2 Ybad.underlying31 h
  rw [Ybad.cells31] at hl
  simp only [Ybad.cells28, Ybad.cells29, List.drop_zero] at h0 h1
  obtain ⟨k, hk⟩ := elem28 h0
  obtain ⟨z, e, _, hw⟩ := DataW.trod_int Ybad.underlying29 h1
  obtain ⟨hz0, hz1⟩ := u64_wf hw
  refine ⟨(k, z.toNat), ?_, by show z.toNat < _; omega⟩
  have e1 : cs = cs.take 16 ++ (cs.drop 16).take 1 := by
    rw [List.take_of_length_le (l := cs.drop 16) (by simp; omega), List.take_append_drop]
  rw [e1, hk, e]
  show k.cells ++ [.int .u64 z] = k.cells ++ [.int .u64 ((z.toNat : Nat) : Int)]
  congr 3
  omega

theorem pairs_open {fuel len cap : Nat} {a0 : Option Addr} {x : DataW H × List MemPlace} (h : DataW.trod enc Ybad.prog W 0 (fun _ => true) true fuel 22 [.slice a0 len cap] = some x) :
    ∃ ps : Nat → KN, (a0 = none → len = 0) ∧ (0 < len → ∃ sb so, a0 = some ⟨sb, so, none⟩ ∧ sb < W.heap.size ∧ ∀ k, k < len → W.rangeAt sb (so + k * 17) (pairCells (ps k))) ∧ (∀ k, k < len → (ps k).2 < 18446744073709551616) := by
  rcases open_slice Ybad.underlying22 h with ⟨hcs, hx⟩ | ⟨a, len', cap', m, n, D, Pl, hcs, _, hl, hm, hmm, hx, hel⟩
  · simp only [List.cons.injEq, Value.slice.injEq, and_true] at hcs
    obtain ⟨rfl, rfl, rfl⟩ := hcs
    exact ⟨fun _ => (⟨List.replicate 16 0, rfl⟩, 0), fun _ => rfl, fun h => by omega, fun i hi => by omega⟩
  · simp only [List.cons.injEq, Value.slice.injEq, and_true] at hcs
    obtain ⟨rfl, rfl, rfl⟩ := hcs
    simp only [if_true] at hmm
    subst hmm
    rw [Ybad.cells31] at hel
    have each : ∀ i, i < len → ∃ p : KN, p.2 < 18446744073709551616 ∧ ∀ j v, (pairCells p)[j]? = some v → W.cell? (a.add (i * 17 + j)) = some v := by
      intro i hi
      obtain ⟨cs', h1, h2⟩ := hel i (by omega)
      obtain ⟨p, rfl, hp⟩ := elem31 h2
      obtain ⟨_, _, hc⟩ := World.cells?_some h1
      refine ⟨p, hp, fun j v hj => ?_⟩
      have hjl : j < 17 := by have := (List.getElem?_eq_some_iff.1 hj).1; rwa [pairCells_length] at this
      have := hc j hjl
      rw [Go.Deep.add_add] at this
      rw [this]
      simpa using hj
    obtain ⟨Y, hY⟩ := choose_lt (α := KN) each
    refine ⟨Y, fun h => (by cases h), ?_, fun k hk => (hY k hk).1⟩
    intro hpos
    obtain ⟨b, o, spot⟩ := a
    obtain ⟨v0, hv0⟩ : ∃ v0, (pairCells (Y 0))[0]? = some v0 := ⟨_, List.getElem?_eq_getElem (by rw [pairCells_length]; omega)⟩
    have c0 : W.cell? ((⟨b, o, spot⟩ : Addr).add 0) = some v0 := (hY 0 hpos).2 0 _ hv0
    have hspot : spot = none := by simpa [Addr.add] using World.cell?_spot c0
    subst hspot
    refine ⟨b, o, rfl, World.block_lt_of_cell? _ _ (by simpa [add_plain] using c0), ?_⟩
    intro i hi j v hj
    have g0 := (hY i hi).2 j v hj
    rw [add_plain] at g0
    rw [Nat.add_assoc]
    exact g0

theorem bytes_open {fuel len cap : Nat} {a0 : Option Addr} {x : DataW H × List MemPlace} (h : DataW.trod enc Ybad.prog W 0 (fun _ => true) true fuel 23 [.slice a0 len cap] = some x) :
    ∃ bs : List UInt8, bs.length = len ∧ (a0 = none → len = 0 ∧ cap = 0) ∧ (∀ a, a0 = some a → BytesAt W a bs) ∧ (0 < len → ∃ m, len ≤ m ∧ m * Ybad.prog.bytesOf 5 ∈ x.1.weights Ybad.prog 23) := by
  rcases open_slice1 Ybad.underlying23 Ybad.cells5 h with ⟨hcs, hx⟩ | ⟨a, len', cap', m, n, V, D, Pl, hcs, _, hl, hm, hmm, hx, hel⟩
  · simp only [List.cons.injEq, Value.slice.injEq, and_true] at hcs
    obtain ⟨rfl, rfl, rfl⟩ := hcs
    exact ⟨[], rfl, fun _ => ⟨rfl, rfl⟩, fun a h => (by cases h), fun h => by omega⟩
  · simp only [List.cons.injEq, Value.slice.injEq, and_true] at hcs
    obtain ⟨rfl, rfl, rfl⟩ := hcs
    simp only [if_true] at hmm
    subst hmm
    have each : ∀ i, i < len → ∃ y : UInt8, W.cell? (a.add i) = some (.int .u8 (y.toNat : Nat)) := by
      intro i hi
      obtain ⟨h1, h2⟩ := hel i (by omega)
      obtain ⟨y, e⟩ := byte_of h2
      simp only [List.cons.injEq, and_true] at e
      exact ⟨y, by rw [h1, e]⟩
    obtain ⟨Y, hY⟩ := choose_lt (α := UInt8) each
    refine ⟨(List.range len).map Y, by simp, fun h => (by cases h), fun a' ha' => ?_, ?_⟩
    · cases ha'
      refine ⟨fun j v hj => ?_⟩
      have hjl : j < len := by have := (List.getElem?_eq_some_iff.1 hj).1; simpa [Lib.byteCells] using this
      rw [hY j hjl]
      simpa [Lib.byteCells, hjl] using hj
    · intro _
      refine ⟨m, hl, ?_⟩
      rw [hx]
      simp only [DataW.weights, Ybad.underlying23, List.mem_cons]
      left
      simp only [List.length_map, List.length_range]
      rw [show len + (m - len) = m by omega]
end
end Go.Proofs.YbulkedvmDoor
