import Derived.Test.YbulkedtwFmtW3
import Derived.Deep.AppendLies
namespace Go.Proofs.YbulkedtwFmt
open Go Go.RowKit

/-- A member: its id; its two addresses, where it has them; the value that stands for its Info. -/
structure Mem where
  id : Int
  pc : Option (ByteArray × ByteArray)
  v : Value

def Mem.bytes (m : Mem) : Option (List UInt8) := m.pc.map fun x => info x.1.data.toList x.2.data.toList

/-- WHAT LIES BEHIND AN Info: nil, or a row of bytes of its own. -/
def InfoAt (w : World) (v : Value) : Option (List UInt8) → Prop
  | none => v = .slice none 0 0
  | some bs => w.ownsRow 0 5 1 v bs.length (Lib.byteCells bs)

def memCells (M : List Mem) : List Value := M.flatMap fun m => [.int .i64 m.id, m.v]
def repOf (m : Mem) : List Value := match m.pc with
  | none => []
  | some (p, c) => [.int .i64 m.id, .string p, .string c]
def repCells (M : List Mem) : List Value := M.flatMap repOf
def repN (M : List Mem) : Nat := (M.filter fun m => m.pc.isSome).length

theorem repCells_length (M : List Mem) : (repCells M).length = repN M * 3 := by
  induction M with
  | nil => rfl
  | cons m M ih =>
    obtain ⟨id, pc, v⟩ := m
    have e : repCells (⟨id, pc, v⟩ :: M) = repOf ⟨id, pc, v⟩ ++ repCells M := by simp [repCells]
    rw [e, List.length_append, ih]
    cases pc with
    | none => simp [repOf, repN]
    | some x => obtain ⟨p, c⟩ := x; simp [repOf, repN]; omega

theorem repN_le (M : List Mem) : repN M ≤ M.length := List.length_filter_le _ _

theorem memCells_snoc (M : List Mem) (m : Mem) : memCells (M ++ [m]) = memCells M ++ [.int .i64 m.id, m.v] := by simp [memCells]
theorem repCells_snoc (M : List Mem) (m : Mem) : repCells (M ++ [m]) = repCells M ++ repOf m := by simp [repCells]
theorem repN_snoc_some (M : List Mem) (id : Int) (x : ByteArray × ByteArray) (v : Value) : repN (M ++ [⟨id, some x, v⟩]) = repN M + 1 := by simp [repN]
theorem repN_snoc_none (M : List Mem) (id : Int) (v : Value) : repN (M ++ [⟨id, none, v⟩]) = repN M := by simp [repN]

theorem memCells_get (M : List Mem) : ∀ (i : Nat) (m : Mem), M[i]? = some m → (memCells M)[i * 2]? = some (.int .i64 m.id) ∧ (memCells M)[i * 2 + 1]? = some m.v := by
  induction M with
  | nil => intro i m h; simp at h
  | cons a M ih =>
    intro i m h
    have e : memCells (a :: M) = .int .i64 a.id :: a.v :: memCells M := by simp [memCells]
    rw [e]
    cases i with
    | zero => simp at h; subst h; simp
    | succ i =>
      simp at h
      obtain ⟨h1, h2⟩ := ih i m h
      have e1 : (i + 1) * 2 = i * 2 + 1 + 1 := by omega
      rw [e1]
      simp [h1, h2]

/-- THE SLICE ms IN MEMORY. -/
structure MsAt (w : World) (B : Nat) (v : Value) (M : List Mem) : Prop where
  own : w.ownsRow B 27 2 v M.length (memCells M)
  info : ∀ m ∈ M, InfoAt w m.v m.bytes

theorem InfoAt.below {w w' : World} {v : Value} {b : Option (List UInt8)} (hb : Below w.heap.size w w') (h : InfoAt w v b) : InfoAt w' v b := by
  cases b with
  | none => exact h
  | some bs => exact row_below_all hb h

theorem InfoAt.grown {w w' : World} {v u : Value} {b : Option (List UInt8)} {B e size n : Nat} {xs : List Value} (hg : w.grownBy w' u.ownBlock) (hu : w.ownsRow B e size u n xs) (he : e ≠ 5) (h : InfoAt w v b) : InfoAt w' v b := by
  cases b with
  | none => exact h
  | some bs => exact World.ownsRow.kept h hg (rows_apart h hu (Ne.symm he))

theorem MsAt.below {w w' : World} {B : Nat} {v : Value} {M : List Mem} (hb : Below w.heap.size w w') (h : MsAt w B v M) : MsAt w' B v M :=
  ⟨row_below_all hb h.own, fun m hm => (h.info m hm).below hb⟩

/-- Reading an element. -/
theorem MsAt.read {w : World} {B g cap n : Nat} {M : List Mem} (h : MsAt w B (.slice (some ⟨g, 0, none⟩) n cap) M) (i : Nat) (m : Mem) (hi : M[i]? = some m) :
    w.cell? ⟨g, i * 2, none⟩ = some (.int .i64 m.id) ∧ w.cell? ⟨g, i * 2 + 1, none⟩ = some m.v := by
  obtain ⟨h1, h2⟩ := memCells_get M i m hi
  have c1 := h.own.cells (g := g) rfl _ _ h1
  have c2 := h.own.cells (g := g) rfl _ _ h2
  rw [Go.WideShapes.add_plain, Nat.zero_add] at c1 c2
  exact ⟨c1, c2⟩

theorem MsAt.form {w : World} {B : Nat} {v : Value} {M : List Mem} (h : MsAt w B v M) : (v = .slice none 0 0 ∧ M = []) ∨ ∃ g cap, v = .slice (some ⟨g, 0, none⟩) M.length cap ∧ B ≤ g ∧ g < w.heap.size ∧ M.length ≤ cap ∧ cap ≤ maxLen := by
  rcases h.own.2 with ⟨e, h0⟩ | ⟨g, cap, cur, e, hB, hg, h1, h2, _⟩
  · exact Or.inl ⟨e, List.eq_nil_of_length_eq_zero h0⟩
  · exact Or.inr ⟨g, cap, e, hB, lt_of_block hg, h1, h2⟩

theorem infoBytes {w : World} {v : Value} {p c : ByteArray} (h : InfoAt w v (some (info p.data.toList c.data.toList))) : ∃ g cap, v = .slice (some ⟨g, 0, none⟩) (info p.data.toList c.data.toList).length cap ∧
    g < w.heap.size ∧ (info p.data.toList c.data.toList).length ≤ cap ∧ cap ≤ 9223372036854775807 ∧ ∀ j (hj : j < (info p.data.toList c.data.toList).length), w.cell? ⟨g, j, none⟩ = some (.int .u8 ((info p.data.toList c.data.toList)[j]).toNat) := by
  have h' : w.ownsRow 0 5 1 v (info p.data.toList c.data.toList).length (Lib.byteCells (info p.data.toList c.data.toList)) := h
  rcases h'.2 with ⟨e, h0⟩ | ⟨g, cap, cur, e, hB, hg, h1, h2, _⟩
  · have := Lib.uvarint_pos p.size
    simp [info, encB] at h0
    rw [h0.1] at this
    simp at this
  · refine ⟨g, cap, e, lt_of_block hg, h1, h2, ?_⟩
    intro j hj
    have := h'.cells (g := g) (by rw [e]; rfl) j (.int .u8 ((info p.data.toList c.data.toList)[j]).toNat) (by simp [Lib.byteCells, List.getElem?_eq_getElem hj])
    rw [Go.WideShapes.add_plain, Nat.zero_add] at this
    exact this

end Go.Proofs.YbulkedtwFmt
