import Derived.Test.YbulkedvmDoorW14
import Derived.Maps.OwnOps
namespace Go.Proofs.YbulkedvmDoor
open Go Go.RowKit Go.Lib Go.Maps Go.Sort
set_option maxRecDepth 100000
attribute [local go_sem ↓] Go.wp_at_zero Go.wp_at_succ

/-- The text of the first i pairs, by single blanks apart. -/
def vtextTo (ps : List KN) : Nat → List UInt8
  | 0 => []
  | k + 1 => vtextTo ps k ++ ((if 0 < k then [32] else []) ++ (match ps[k]? with | some p => idText p | none => []))

def valOf (L : List KN) (k : Key) : Nat := ((L.find? fun p => p.1 == k).map (·.2)).getD 0
def sortP (L : List KN) : List KN := (sortKeys (L.map (·.1))).map fun k => (k, valOf L k)

theorem sortP_length (L : List KN) : (sortP L).length = L.length := by simp [sortP, sortKeys_length]

theorem vtextTo_le (ps : List KN) (h : ∀ p ∈ ps, p.2 < 18446744073709551616) : ∀ k, (vtextTo ps k).length ≤ k * 54
  | 0 => by simp [vtextTo]
  | k + 1 => by
    have h1 := vtextTo_le ps h k
    have h2 : ((if 0 < k then [32] else []) : List UInt8).length ≤ 1 := by split <;> simp
    have h3 : (match ps[k]? with | some p => idText p | none => []).length ≤ 53 := by
      split
      · rename_i p hp
        exact idText_le p (h p (List.mem_of_getElem? hp))
      · simp
    simp only [vtextTo, List.length_append]
    omega

theorem valOf_mem {L : List KN} (hn : (L.map (·.1)).Nodup) {p : KN} (hp : p ∈ L) : valOf L p.1 = p.2 := by
  induction L with
  | nil => cases hp
  | cons a r ih =>
    rw [List.map_cons, List.nodup_cons] at hn
    unfold valOf
    rw [List.find?_cons]
    rcases List.mem_cons.1 hp with rfl | h
    · simp
    · have hne : (a.1 == p.1) = false := by
        rw [beq_eq_false_iff_ne]
        intro e
        exact hn.1 (by rw [e]; exact List.mem_map.2 ⟨p, h, rfl⟩)
      rw [hne]
      exact ih hn.2 h

theorem mem_sortKeys {L : List KN} {k : Key} (h : k ∈ sortKeys (L.map (·.1))) : ∃ p ∈ L, p.1 = k := by
  have := (List.mergeSort_perm (L.map (·.1)) _).mem_iff.1 h
  obtain ⟨p, hp, e⟩ := List.mem_map.1 this
  exact ⟨p, hp, e⟩

theorem sortP_mem {L : List KN} (hn : (L.map (·.1)).Nodup) {q : KN} (h : q ∈ sortP L) : q ∈ L := by
  obtain ⟨k, hk, rfl⟩ := List.mem_map.1 h
  obtain ⟨p, hp, rfl⟩ := mem_sortKeys hk
  rw [valOf_mem hn hp]
  exact hp

theorem MapIs.nd {w : World} {mb N : Nat} {L : List KN} (h : MapIs w mb N L) : (L.map (·.1)).Nodup := by
  obtain ⟨n, D, h1, h2, h3⟩ := h.ex
  exact h3.nd

theorem zero29 (w : World) : (zeroValue 29).run Ybad.prog w = .ok (.int .u64 0) w := by kernel_rfl

/-- v[k] where the map has k. -/
theorem MapIs.look {w : World} {mb N : Nat} {L : List KN} (h : MapIs w mb N L) {p : KN} (hp : p ∈ L) :
    (Instr.lookup 25 (.map (some mb)) (.agg p.1.cells.toArray) false).run Ybad.prog w = .ok (.int .u64 (p.2 : Nat)) w := by
  obtain ⟨n, D, h1, h2, h3⟩ := h.ex
  obtain ⟨c, hrun, hat, _⟩ := h2.lookup_int klaw Ybad.underlying25 Ybad.underlying29 (zero29 w) (keyOf_key p.1)
  have := (h3.at' p hp).symm.trans hat
  injection this with this
  injection this with _ this
  rw [this]
  exact hrun
end Go.Proofs.YbulkedvmDoor
