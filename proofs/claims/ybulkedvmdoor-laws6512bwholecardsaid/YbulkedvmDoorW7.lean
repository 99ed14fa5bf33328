import Derived.Test.YbulkedvmDoorW6
import Derived.DeepKeys4
import Derived.Maps.OwnSet
import Derived.Maps.RangeWalk
import Derived.Maps.Ext
import Derived.OpenShut
import Derived.Sort.KeysCollected
namespace Go.Proofs.YbulkedvmDoor
open Go Go.RowKit Go.Lib Go.Maps
set_option maxRecDepth 100000

theorem klaw : Keyed Ybad.prog 32 := Keyed.of_law (deep_law_laid (m := 2) (by kernel_rfl) (by omega) (by decide +kernel) (by kernel_rfl) (by kernel_rfl))

theorem take16 (l : List UInt8) (h : l.length = 16) : ∃ b0 b1 b2 b3 b4 b5 b6 b7 c0 c1 c2 c3 c4 c5 c6 c7, l = [b0, b1, b2, b3, b4, b5, b6, b7, c0, c1, c2, c3, c4, c5, c6, c7] := by
  obtain ⟨b0, b1, b2, b3, b4, b5, b6, b7, r, rfl⟩ := take8 l (by omega)
  obtain ⟨c0, c1, c2, c3, c4, c5, c6, c7, r2, rfl⟩ := take8 r (by simp at h; omega)
  have : r2 = [] := by
    simp at h
    exact h
  subst this
  exact ⟨_, _, _, _, _, _, _, _, _, _, _, _, _, _, _, _, rfl⟩

theorem tsize : ∃ n, Ybad.prog.types.size = n + 1 := ⟨Ybad.prog.types.size - 1, by decide +kernel⟩
theorem cells32 : Ybad.prog.cellsOf 32 = 16 := by kernel_rfl
theorem cells5 : Ybad.prog.cellsOf 5 = 1 := by kernel_rfl
theorem keyT32 : Ybad.prog.keyType 32 = true := by kernel_rfl

theorem u8wf (b : UInt8) : (Lit.int .u8 (b.toNat : Int)).wf = true := by
  have := b.toNat_lt
  simp [Lit.wf, IntKind.min, IntKind.max, IntKind.signed, IntKind.bits]
  omega

theorem bytes_u8 (b : UInt8) : Lit.keyBytes (.int .u8 (b.toNat : Int)) = [b] := by
  have h := b.toNat_lt
  have e : ((b.toNat : Int) % 2 ^ IntKind.u8.bits).toNat = b.toNat := by
    show ((b.toNat : Int) % 256).toNat = b.toNat
    omega
  show bytesBE 1 ((b.toNat : Int) % 2 ^ IntKind.u8.bits).toNat = [b]
  rw [e]
  simp [bytesBE, bytesLE, Nat.mod_eq_of_lt h]

theorem lits_key (k : Key) : Ybad.prog.keyLits (Ybad.prog.types.size + 1) 32 k.cells = some (k.1.map fun b => .int .u8 (b.toNat : Int)) := by
  obtain ⟨l, hl⟩ := k
  obtain ⟨b0, b1, b2, b3, b4, b5, b6, b7, c0, c1, c2, c3, c4, c5, c6, c7, rfl⟩ := take16 l hl
  obtain ⟨n, hn⟩ := tsize
  rw [hn]
  simp [Program.keyLits, Ybad.underlying32, Ybad.underlying5, cells32, cells5, Key.cells, Lib.byteCells, List.range, List.range.loop, u8wf]

theorem bytes_key (l : List UInt8) : keyBytes (l.map fun b => Lit.int .u8 (b.toNat : Int)) = l := by
  induction l with
  | nil => rfl
  | cons b r ih =>
    show Lit.keyBytes (.int .u8 (b.toNat : Int)) ++ keyBytes (r.map fun b => Lit.int .u8 (b.toNat : Int)) = b :: r
    rw [ih, bytes_u8]
    rfl

theorem keyOf_key (k : Key) : keyOf Ybad.prog 32 (.agg k.cells.toArray) = some (.string k.1) := by
  have hf : Value.formed Ybad.prog 32 (.agg k.cells.toArray) = true := by
    simp [Value.formed, Ybad.underlying32, cells32, k.cells_length]
  simp only [keyOf, Ybad.underlying32, keyT32, hf, Bool.and_self, if_true, Value.cells]
  rw [lits_key k]
  simp [bytes_key]
theorem alike_u8 : ∀ (l : List Lit) (bs : List UInt8), Alike l (bs.map fun b => .int .u8 (b.toNat : Int)) → (∀ a ∈ l, a.keyWf) → ∃ x : List UInt8, x.length = bs.length ∧ l = x.map fun b => .int .u8 (b.toNat : Int)
  | [], [], _, _ => ⟨[], rfl, rfl⟩
  | [], _ :: _, h, _ => by simp [Alike] at h
  | _ :: _, [], h, _ => by simp [Alike] at h
  | a :: l, b :: bs, h, hw => by
    obtain ⟨h1, h2⟩ := h
    obtain ⟨x, hx1, hx2⟩ := alike_u8 l bs h2 fun a ha => hw a (List.mem_cons_of_mem _ ha)
    have hwa := hw a List.mem_cons_self
    cases a <;> simp [Lit.sameKind] at h1
    rename_i q n
    subst h1
    have hb := bounds_u8 hwa
    refine ⟨n.toNat.toUInt8 :: x, by simp [hx1], ?_⟩
    have e : (n.toNat.toUInt8).toNat = n.toNat := by
      simp [Nat.toUInt8, UInt8.toNat_ofNat']
      omega
    rw [List.map_cons, ← hx2, e]
    congr 2
    omega

theorem keyOf_inv {key : Value} {kl : Lit} (h : keyOf Ybad.prog 32 key = some kl) : ∃ x : Key, key = .agg x.cells.toArray ∧ kl = .string x.1 := by
  simp only [keyOf, Ybad.underlying32] at h
  split at h
  · rename_i hc
    rw [Bool.and_eq_true] at hc
    obtain ⟨ls, hls, rfl⟩ := Option.map_eq_some_iff.1 h
    cases key <;> simp [Value.formed, Ybad.underlying32] at hc
    rename_i cs
    have hal := keyLits_alike hls (lits_key default)
    obtain ⟨x, hx1, hx2⟩ := alike_u8 _ _ hal (keyLits_wf hls)
    have hcs := cells_of_lits 2 32 (by kernel_rfl) _ _ _ hls
    subst hx2
    have hx16 : x.length = 16 := by rw [hx1]; rfl
    refine ⟨⟨x, hx16⟩, ?_, by rw [bytes_key]⟩
    congr 1
    apply Array.toList_inj.1
    have e2 : cs.toList = (x.map fun b => Lit.int .u8 (b.toNat : Int)).map Lit.toCell := hcs
    rw [e2]
    simp [Key.cells, Lib.byteCells, Lit.toCell]
  · cases h
end Go.Proofs.YbulkedvmDoor
