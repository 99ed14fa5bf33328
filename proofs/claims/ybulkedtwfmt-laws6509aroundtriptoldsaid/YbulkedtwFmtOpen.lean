import Derived.Test.YbulkedtwFmtW8
import Derived.ProofKit
import Derived.Deep.Strs
import Derived.SizedLaws
namespace Go.Proofs.YbulkedtwFmt
open Go Go.RowKit Go.ChangeShapes Go.WideShapes Go.Deep

theorem Ybaf.cells37 : Ybaf.prog.cellsOf 37 = 3 := by kernel_rfl
theorem Ybaf.cells3 : Ybaf.prog.cellsOf 3 = 1 := by kernel_rfl
theorem Ybaf.cells4 : Ybaf.prog.cellsOf 4 = 1 := by kernel_rfl
theorem Ybaf.cells9 : Ybaf.prog.cellsOf 9 = 1 := by kernel_rfl

theorem mem_weightsAll {H : Type} {P : Program} {e : TypeId} {n : Nat} : ∀ {l : List (DataW H)} {d : DataW H}, d ∈ l → n ∈ d.weights P e → n ∈ DataW.weightsAll P e l
  | x :: l, d, hd, hn => by
    simp only [DataW.weightsAll, List.mem_append]
    rcases List.mem_cons.1 hd with rfl | h
    · exact Or.inl hn
    · exact Or.inr (mem_weightsAll h hn)

section
variable {H : Type} {enc : TypeId × Value → H} {W : World}

theorem elem37 {fuel : Nat} {cs : List Value} {x : DataW H × List MemPlace} (h : DataW.trod enc Ybaf.prog W 0 (fun _ => true) true fuel 37 cs = some x) :
    ∃ (id : Int) (p q : ByteArray), cs = [.int .i64 id, .string p, .string q] ∧ x.1 = .agg [.lit (.int .i64 id), .lit (.string p.data.toList), .lit (.string q.data.toList)] := by
  obtain ⟨y0, y1, y2, n, hx, hl, h0, h1, h2⟩ := trod_struct3 Ybaf.underlying37 h
  rw [Ybaf.cells37] at hl
  match cs, hl with
  | [c0, c1, c2], _ =>
    simp only [Ybaf.cells3, Ybaf.cells9, List.drop_zero, List.drop_succ_cons, List.take_succ_cons, List.take_zero] at h0 h1 h2
    obtain ⟨id, e0, f0, _⟩ := DataW.trod_int Ybaf.underlying3 h0
    obtain ⟨p, e1, f1, _⟩ := DataW.trod_string Ybaf.underlying9 h1
    obtain ⟨q, e2, f2, _⟩ := DataW.trod_string Ybaf.underlying9 h2
    simp only [List.cons.injEq, and_true] at e0 e1 e2
    subst e0 e1 e2 f0 f1 f2
    exact ⟨id, p, q, rfl, by rw [hx]⟩

theorem rs_open {fuel len cap : Nat} {a0 : Option Addr} {x : DataW H × List MemPlace} (h : DataW.trod enc Ybaf.prog W 0 (fun _ => true) true fuel 35 [.slice a0 len cap] = some x) :
    ∃ (ID : Nat → Int) (PA QA : Nat → ByteArray), (0 < len → ∃ b o, a0 = some ⟨b, o, none⟩ ∧ b < W.heap.size ∧ ∀ i, i < len → W.cell? ⟨b, o + i * 3, none⟩ = some (.int .i64 (ID i)) ∧ W.cell? ⟨b, o + i * 3 + 1, none⟩ = some (.string (PA i)) ∧ W.cell? ⟨b, o + i * 3 + 2, none⟩ = some (.string (QA i))) ∧
      (∀ i, i < len → (PA i).size ∈ x.1.weights Ybaf.prog 35 ∧ (QA i).size ∈ x.1.weights Ybaf.prog 35) ∧ (0 < len → ∃ m, len ≤ m ∧ m * Ybaf.prog.bytesOf 37 ∈ x.1.weights Ybaf.prog 35) := by
  rcases open_slice Ybaf.underlying35 h with ⟨hcs, hx⟩ | ⟨a, len', cap', m, n, D, Pl, hcs, _, hl, hm, hmm, hx, hel⟩
  · simp only [List.cons.injEq, Value.slice.injEq, and_true] at hcs
    obtain ⟨rfl, rfl, rfl⟩ := hcs
    exact ⟨fun _ => 0, fun _ => ByteArray.empty, fun _ => ByteArray.empty, fun h => by omega, fun i hi => by omega, fun h => by omega⟩
  · simp only [List.cons.injEq, Value.slice.injEq, and_true] at hcs
    obtain ⟨rfl, rfl, rfl⟩ := hcs
    simp only [if_true] at hmm
    subst hmm
    rw [Ybaf.cells37] at hel
    have each : ∀ i, i < len → ∃ y : Int × ByteArray × ByteArray, W.cell? (a.add (i * 3)) = some (.int .i64 y.1) ∧ W.cell? (a.add (i * 3 + 1)) = some (.string y.2.1) ∧ W.cell? (a.add (i * 3 + 2)) = some (.string y.2.2) ∧
        D i = .agg [.lit (.int .i64 y.1), .lit (.string y.2.1.data.toList), .lit (.string y.2.2.data.toList)] := by
      intro i hi
      obtain ⟨cs', h1, h2⟩ := hel i (by omega)
      obtain ⟨id, p, q, rfl, hd⟩ := elem37 h2
      obtain ⟨_, _, hc⟩ := World.cells?_some h1
      refine ⟨(id, p, q), ?_, ?_, ?_, hd⟩
      · have := hc 0 (by omega); rw [Go.Deep.add_add] at this; simpa using this
      · have := hc 1 (by omega); rw [Go.Deep.add_add] at this; simpa using this
      · have := hc 2 (by omega); rw [Go.Deep.add_add] at this; simpa using this
    obtain ⟨Y, hY⟩ := choose_lt (α := Int × ByteArray × ByteArray) each
    refine ⟨fun i => (Y i).1, fun i => (Y i).2.1, fun i => (Y i).2.2, ?_, ?_, ?_⟩
    · intro hpos
      obtain ⟨b, o, spot⟩ := a
      have c0 := (hY 0 hpos).1
      have hspot : spot = none := by simpa [Addr.add] using World.cell?_spot c0
      subst hspot
      refine ⟨b, o, rfl, World.block_lt_of_cell? _ _ (by simpa [add_plain] using c0), ?_⟩
      intro i hi
      obtain ⟨g0, g1, g2, _⟩ := hY i hi
      rw [add_plain] at g0 g1 g2
      exact ⟨g0, by rw [Nat.add_assoc]; exact g1, by rw [Nat.add_assoc]; exact g2⟩
    · intro i hi
      have hmem : D i ∈ (List.range len).map D := List.mem_map_of_mem (List.mem_range.2 hi)
      have hd := (hY i hi).2.2.2
      rw [hx]
      simp only [DataW.weights, Ybaf.underlying35, List.mem_cons, List.mem_append]
      constructor
      · refine Or.inr (Or.inl (mem_weightsAll hmem ?_))
        rw [hd]
        simp [DataW.weights, DataW.weightsEach, Ybaf.underlying37]
      · refine Or.inr (Or.inl (mem_weightsAll hmem ?_))
        rw [hd]
        simp [DataW.weights, DataW.weightsEach, Ybaf.underlying37]
    · intro _
      refine ⟨m, hl, ?_⟩
      rw [hx]
      simp only [DataW.weights, Ybaf.underlying35, List.mem_cons]
      left
      simp only [List.length_map, List.length_range]
      rw [show len + (m - len) = m by omega]

theorem skip_open {fuel len cap : Nat} {a0 : Option Addr} {x : DataW H × List MemPlace} (h : DataW.trod enc Ybaf.prog W 0 (fun _ => true) true fuel 23 [.slice a0 len cap] = some x) :
    ∃ (SK : Nat → Bool), (0 < len → ∃ b o, a0 = some ⟨b, o, none⟩ ∧ b < W.heap.size ∧ ∀ i, i < len → W.cell? ⟨b, o + i, none⟩ = some (.bool (SK i))) ∧ (0 < len → ∃ m, len ≤ m ∧ m * Ybaf.prog.bytesOf 4 ∈ x.1.weights Ybaf.prog 23) := by
  rcases open_slice1 Ybaf.underlying23 Ybaf.cells4 h with ⟨hcs, hx⟩ | ⟨a, len', cap', m, n, V, D, Pl, hcs, _, hl, hm, hmm, hx, hel⟩
  · simp only [List.cons.injEq, Value.slice.injEq, and_true] at hcs
    obtain ⟨rfl, rfl, rfl⟩ := hcs
    exact ⟨fun _ => false, fun h => by omega, fun h => by omega⟩
  · simp only [List.cons.injEq, Value.slice.injEq, and_true] at hcs
    obtain ⟨rfl, rfl, rfl⟩ := hcs
    simp only [if_true] at hmm
    subst hmm
    have each : ∀ i, i < len → ∃ y : Bool, W.cell? (a.add i) = some (.bool y) := by
      intro i hi
      obtain ⟨h1, h2⟩ := hel i (by omega)
      obtain ⟨y, e, _⟩ := DataW.trod_bool Ybaf.underlying4 h2
      simp only [List.cons.injEq, and_true] at e
      exact ⟨y, by rw [h1, e]⟩
    obtain ⟨Y, hY⟩ := choose_lt (α := Bool) each
    refine ⟨Y, ?_, ?_⟩
    · intro hpos
      obtain ⟨b, o, spot⟩ := a
      have c0 := hY 0 hpos
      have hspot : spot = none := by simpa [Addr.add] using World.cell?_spot c0
      subst hspot
      refine ⟨b, o, rfl, World.block_lt_of_cell? _ _ (by simpa [add_plain] using c0), ?_⟩
      intro i hi
      have g0 := hY i hi
      rw [add_plain] at g0
      exact g0
    · intro _
      refine ⟨m, hl, ?_⟩
      rw [hx]
      simp only [DataW.weights, Ybaf.underlying23, List.mem_cons]
      left
      simp only [List.length_map, List.length_range]
      rw [show len + (m - len) = m by omega]
end
end Go.Proofs.YbulkedtwFmt
