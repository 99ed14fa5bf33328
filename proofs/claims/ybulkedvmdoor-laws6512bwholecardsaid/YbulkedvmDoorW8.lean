import Derived.Test.YbulkedvmDoorW7
namespace Go.Proofs.YbulkedvmDoor
open Go Go.RowKit Go.Lib Go.Maps
set_option maxRecDepth 100000

abbrev KN := Key × Nat
abbrev lit (k : Key) : Lit := .string k.1
abbrev num (v : Nat) : DataW Unit := .lit (.int .u64 v)

/-- THE MAP's DATUM READS AS THE LIST OF PAIRS. -/
structure Reads (D : DataW Unit) (L : List KN) : Prop where
  nd : (L.map (·.1)).Nodup
  has : ∀ x : List UInt8, Maps.has D (.string x) = true ↔ ∃ p ∈ L, p.1.1 = x
  at' : ∀ p ∈ L, D.atKey (lit p.1) (num 0) = num p.2

theorem isKey (k : Key) : WideAt.IsKeyLit (lit k) := klaw.key (keyOf_key k)

theorem lit_ne {x : List UInt8} {k : Key} (h : x ≠ k.1) : (Lit.string x : Lit) ≠ lit k := fun e => h (by injection e)

theorem Reads.empty : Reads (.map []) [] := ⟨by simp, fun x => by simp [Maps.has], fun p hp => by cases hp⟩

theorem Reads.snoc {D : DataW Unit} {L : List KN} (R : Reads D L) (hD : IsMap D) (k : Key) (v : Nat) (hk : ∀ p ∈ L, p.1 ≠ k) : Reads (D.put (lit k) (num v)) (L ++ [(k, v)]) := by
  refine ⟨?_, fun x => ?_, fun p hp => ?_⟩
  · rw [List.map_append, List.nodup_append]
    refine ⟨R.nd, by simp, ?_⟩
    intro a ha b hb e
    simp at hb
    subst hb
    obtain ⟨p, hp, rfl⟩ := List.mem_map.1 ha
    exact hk p hp e
  · by_cases e : x = k.1
    · subst e
      rw [has_put_same hD (isKey k)]
      simp
    · rw [has_put_other (lit_ne e), R.has x]
      constructor
      · rintro ⟨p, hp, h⟩
        exact ⟨p, List.mem_append_left _ hp, h⟩
      · rintro ⟨p, hp, h⟩
        rcases List.mem_append.1 hp with h1 | h1
        · exact ⟨p, h1, h⟩
        · simp at h1
          subst h1
          exact absurd h.symm e
  · rcases List.mem_append.1 hp with h1 | h1
    · rw [atKey_put_other (lit_ne (fun e => hk p h1 (Subtype.ext e))), R.at' p h1]
    · simp at h1
      subst h1
      exact atKey_put_same hD (isKey k) _ _

theorem Reads.set {D : DataW Unit} {L : List KN} (R : Reads D L) (hD : IsMap D) (j : Nat) (hj : j < L.length) (v : Nat) : Reads (D.put (lit L[j].1) (num v)) (L.set j (L[j].1, v)) := by
  have hkeys : (L.set j (L[j].1, v)).map (·.1) = L.map (·.1) := by
    rw [List.map_set]
    have : (L.map (·.1))[j]'(by simpa using hj) = L[j].1 := by simp
    rw [← this, List.set_getElem_self]
  refine ⟨by rw [hkeys]; exact R.nd, fun x => ?_, fun p hp => ?_⟩
  · have hiff : (∃ p ∈ L.set j (L[j].1, v), p.1.1 = x) ↔ ∃ p ∈ L, p.1.1 = x := by
      have h1 : ∀ M : List KN, (∃ p ∈ M, p.1.1 = x) ↔ ∃ k ∈ M.map (·.1), k.1 = x := fun M => by simp
      rw [h1, h1, hkeys]
    rw [hiff]
    by_cases e : x = L[j].1.1
    · subst e
      rw [has_put_same hD (isKey _)]
      simp only [true_iff]
      exact ⟨L[j], List.getElem_mem hj, rfl⟩
    · rw [has_put_other (lit_ne e)]
      exact R.has x
  · obtain ⟨i, hi, rfl⟩ := List.getElem_of_mem hp
    have hi' : i < L.length := by simpa using hi
    by_cases e : i = j
    · subst e
      simp only [List.getElem_set_self]
      exact atKey_put_same hD (isKey _) _ _
    · rw [List.getElem_set_ne (fun h => e h.symm)]
      have hne : L[i].1 ≠ L[j].1 := by
        have hp := List.pairwise_iff_getElem.1 R.nd
        intro h
        rcases Nat.lt_or_gt_of_ne e with h1 | h1
        · exact hp i j (by simpa using hi') (by simpa using hj) h1 (by simpa using h)
        · exact hp j i (by simpa using hj) (by simpa using hi') h1 (by simpa using h.symm)
      rw [atKey_put_other (lit_ne (fun h => hne (Subtype.ext h)))]
      exact R.at' _ (List.getElem_mem hi')
theorem nd_val {L : List KN} (h : (L.map (·.1)).Nodup) : (L.map fun p => p.1.1).Nodup := by
  have e : (L.map fun p => p.1.1) = (L.map (·.1)).map (·.1) := by simp
  rw [e]
  exact List.pairwise_map.2 (h.imp_of_mem fun {a b} _ _ hne he => hne (Subtype.ext he))

theorem Reads.size {D : DataW Unit} {L : List KN} {w : World} {mb n : Nat} (hown : w.ownsMap Ybad.prog 32 (plainElem Ybad.prog 29) mb n D) (R : Reads D L) : Maps.size D = L.length := by
  obtain ⟨es, e1, hpw, hk⟩ := hown.entries klaw
  obtain ⟨es', e2, hko⟩ := hown.keysOf
  subst e1
  injection e2 with e3
  subst e3
  have hp : (L.map fun p => p.1.1).Perm (strKeys (.map es)) := by
    refine perm_strKeys hpw (fun p hp => ?_) (nd_val R.nd) fun x => ?_
    · obtain ⟨key, hkey⟩ := hko p hp
      obtain ⟨x, _, hx⟩ := keyOf_inv hkey
      exact ⟨_, hx⟩
    · rw [R.has x]
      simp
  have := hp.length_eq
  simp [strKeys] at this
  rw [Maps.size_eq]
  exact this.symm

/-- THE MAP IN BLOCK mb READS AS L, of at most N stores. -/
structure MapIs (w : World) (mb N : Nat) (L : List KN) : Prop where
  ex : ∃ (n : Nat) (D : DataW Unit), n ≤ N ∧ w.ownsMap Ybad.prog 32 (plainElem Ybad.prog 29) mb n D ∧ Reads D L
  u64 : ∀ p ∈ L, p.2 < 18446744073709551616

theorem MapIs.kept {w w' : World} {mb N : Nat} {L : List KN} {row : Option Nat} (h : MapIs w mb N L) (hg : w.grownBy w' row) (hne : some mb ≠ row) : MapIs w' mb N L := by
  obtain ⟨n, D, h1, h2, h3⟩ := h.ex
  exact ⟨⟨n, D, h1, h2.kept hg hne, h3⟩, h.u64⟩

theorem ownsMap_block {P : Program} {k mb n : Nat} {R : Value → Option (DataW Unit × List MemPlace)} {D : DataW Unit} {w w' : World} (h : w.ownsMap P k R mb n D) (e : w'.heap[mb]? = w.heap[mb]?) : w'.ownsMap P k R mb n D := by
  obtain ⟨es, clock, hb, rest⟩ := h
  exact ⟨es, clock, e.trans hb, rest⟩

theorem MapIs.block {w w' : World} {mb N : Nat} {L : List KN} (h : MapIs w mb N L) (e : w'.heap[mb]? = w.heap[mb]?) : MapIs w' mb N L := by
  obtain ⟨n, D, h1, h2, h3⟩ := h.ex
  exact ⟨⟨n, D, h1, ownsMap_block h2 e, h3⟩, h.u64⟩

theorem MapIs.lt {w : World} {mb N : Nat} {L : List KN} (h : MapIs w mb N L) : mb < w.heap.size := by
  obtain ⟨n, D, h1, h2, h3⟩ := h.ex
  exact h2.lt

theorem MapIs.kp {B : Nat} {w w' : World} {mb N : Nat} {L : List KN} (h : MapIs w mb N L) (hk : Kp B w w') : MapIs w' mb N L := by
  obtain ⟨n, D, h1, h2, h3⟩ := h.ex
  obtain ⟨es, clock, hb, rest⟩ := h2
  have hb' := hk.others _ _ hb (by simp) (by simp)
  exact ⟨⟨n, D, h1, ⟨es, clock, hb', rest⟩, h3⟩, h.u64⟩
end Go.Proofs.YbulkedvmDoor
