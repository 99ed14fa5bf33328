import Derived.Lib.Endian
import Derived.Lib.ItoaNum
import Derived.Lib.Walk
import Derived.Lib.OwnKind
import Derived.Test.YbulkedvmDoorMem
namespace Go.Proofs.YbulkedvmDoor
open Go Go.RowKit

abbrev Key := { l : List UInt8 // l.length = 16 }
def Key.cells (k : Key) : List Value := Lib.byteCells k.1
def Key.num (k : Key) : Nat := Lib.beNat k.1

theorem Key.cells_length (k : Key) : k.cells.length = 16 := by simp [Key.cells, Lib.byteCells, k.2]

theorem beFrom_eq : ∀ (l : List UInt8) (acc : Nat), Lib.beFrom acc l = acc * 256 ^ l.length + Lib.beNat l
  | [], acc => by simp [Lib.beFrom, Lib.beNat]
  | b :: r, acc => by
    show Lib.beFrom (acc * 256 + b.toNat) r = acc * 256 ^ (r.length + 1) + Lib.beFrom (0 * 256 + b.toNat) r
    rw [beFrom_eq r, beFrom_eq r, Nat.pow_succ]
    simp only [Nat.add_mul, Nat.zero_mul, Nat.zero_add]
    rw [show acc * 256 * 256 ^ r.length = acc * (256 ^ r.length * 256) by rw [Nat.mul_assoc, Nat.mul_comm 256]]
    omega

theorem beNat_cons (b : UInt8) (r : List UInt8) : Lib.beNat (b :: r) = b.toNat * 256 ^ r.length + Lib.beNat r := by
  show Lib.beFrom (0 * 256 + b.toNat) r = _
  rw [beFrom_eq]
  simp

theorem beNat_lt : ∀ l : List UInt8, Lib.beNat l < 256 ^ l.length
  | [] => by simp [Lib.beNat, Lib.beFrom]
  | b :: r => by
    rw [beNat_cons, List.length_cons, Nat.pow_succ]
    have h1 := beNat_lt r
    have h2 : b.toNat ≤ 255 := by have := b.toNat_lt; omega
    have h3 : b.toNat * 256 ^ r.length ≤ 255 * 256 ^ r.length := Nat.mul_le_mul_right _ h2
    omega

theorem beNat_append : ∀ a b : List UInt8, Lib.beNat (a ++ b) = Lib.beNat a * 256 ^ b.length + Lib.beNat b
  | [], b => by simp [Lib.beNat, Lib.beFrom]
  | x :: a, b => by
    rw [List.cons_append, beNat_cons, beNat_append a b, beNat_cons, List.length_append, Nat.pow_add, Nat.add_mul, Nat.mul_assoc]
    omega

theorem beNat_inj : ∀ a b : List UInt8, a.length = b.length → Lib.beNat a = Lib.beNat b → a = b
  | [], [], _, _ => rfl
  | [], _ :: _, h, _ => by simp at h
  | _ :: _, [], h, _ => by simp at h
  | x :: a, y :: b, hl, h => by
    have hl' : a.length = b.length := by simpa using hl
    rw [beNat_cons, beNat_cons, hl'] at h
    have ha := beNat_lt a
    have hb := beNat_lt b
    rw [hl'] at ha
    have hp : 0 < 256 ^ b.length := Nat.pow_pos (by omega)
    have hx : x.toNat = y.toNat := by
      have e1 : (x.toNat * 256 ^ b.length + Lib.beNat a) / 256 ^ b.length = x.toNat := by
        rw [Nat.add_comm, Nat.add_mul_div_right _ _ hp, Nat.div_eq_of_lt ha, Nat.zero_add]
      have e2 : (y.toNat * 256 ^ b.length + Lib.beNat b) / 256 ^ b.length = y.toNat := by
        rw [Nat.add_comm, Nat.add_mul_div_right _ _ hp, Nat.div_eq_of_lt hb, Nat.zero_add]
      rw [← e1, ← e2, h]
    have hxy : x = y := UInt8.toNat_inj.1 hx
    subst hxy
    rw [beNat_inj a b hl' (by omega)]

theorem beNat_lt_at {a b : List UInt8} (hl : a.length = b.length) (i : Nat) (hi : i < a.length) (hi' : i < b.length) (hpre : a.take i = b.take i) (hlt : a[i].toNat < b[i].toNat) : Lib.beNat a < Lib.beNat b := by
  have ea : a = a.take i ++ a[i] :: a.drop (i + 1) := by simp
  have eb : b = b.take i ++ b[i] :: b.drop (i + 1) := by simp
  rw [ea, eb, beNat_append, beNat_append, hpre, beNat_cons, beNat_cons]
  have l1 : (a.drop (i + 1)).length = (b.drop (i + 1)).length := by simp [hl]
  have h1 := beNat_lt (a.drop (i + 1))
  rw [List.length_cons, List.length_cons, l1] at *
  have h3 : (a[i].toNat + 1) * 256 ^ (b.drop (i + 1)).length ≤ b[i].toNat * 256 ^ (b.drop (i + 1)).length := Nat.mul_le_mul_right _ hlt
  rw [Nat.add_mul, Nat.one_mul] at h3
  omega

theorem Key.num_inj {a b : Key} (h : a.num = b.num) : a = b := Subtype.ext (beNat_inj _ _ (by rw [a.2, b.2]) h)

/-- THE FRAME: below B nothing has turned; no row of another kind than uint8 has. -/
structure Kp (B : Nat) (w w' : World) : Prop where
  below : Below B w w'
  others : Lib.OthersKept 5 none w w'

theorem Kp.refl (B : Nat) (w : World) : Kp B w w := ⟨Below.refl _ _, Lib.OthersKept.refl _ _ _⟩
theorem Kp.trans {B : Nat} {w w1 w2 : World} (h : Kp B w w1) (k : Kp B w1 w2) : Kp B w w2 := ⟨h.below.trans k.below, h.others.trans k.others⟩
theorem Kp.alloc {B : Nat} {w w1 : World} (h : Kp B w w1) (hB : B ≤ w1.heap.size) (o : Obj) : Kp B w (w1.alloc o) := ⟨h.below.alloc hB o, h.others.alloc o⟩
theorem Onl.kp {B n : Nat} {w w' : World} {v v' : Value} {xs : List Value} (h : Onl w w' v v') (hown : w.ownsRow B 5 1 v n xs) (hB : B ≤ w.heap.size) : Kp B w w' :=
  ⟨h.below hB fun k hk => (hown.lt k hk).1, (Lib.OthersKept.refl _ _ _).grown h.grown (Lib.ownsRow_kind hown)⟩

end Go.Proofs.YbulkedvmDoor
