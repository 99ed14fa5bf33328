import Derived.Test.YbulkedvmDoorW12
namespace Go.Proofs.YbulkedvmDoor
open Go Go.RowKit Go.Lib Go.Maps Go.Sort
set_option maxRecDepth 100000

theorem bytesOf_nats (l : List UInt8) : Lib.bytesOf (l.map fun b => (b.toNat : Int)) = l := by
  rw [Lib.bytesOf, List.map_map]
  exact (List.map_congr_left (fun b _ => by simp)).trans (List.map_id l)

/-- hex.Encode of a key into the spare room of a row that the call owns. -/
theorem encode_any (B n g cap : Nat) (m : Key) (T : Nat) (xs : List Value) (w : World) (hown : w.ownsRow B 5 1 (.slice (some ⟨g, 0, none⟩) n cap) n xs) (hBw : B ≤ w.heap.size) (hroom : n + 32 ≤ cap)
    (hT : w.heap[T]? = some (.cells m.cells.toArray 32)) (cd cs : Nat) :
    Calls Ybad.prog 40 #[.slice (some ⟨g, n, none⟩) 32 cd, .slice (some ⟨T, 0, none⟩) 16 cs] w fun e w' => e = .returned (.int .i64 32) ∧ w'.ownsRow B 5 1 (.slice (some ⟨g, 0, none⟩) (n + 32) cap) (n + 32) (xs ++ Lib.byteCells (Lib.Hx.encode m.1)) ∧ Kp B w w' := by
  rcases hown.2 with ⟨h0, _⟩ | ⟨g', cap', cur, h0, hB, hg, hnc, hcm, hcs, htk⟩
  · cases h0
  cases h0
  rw [Nat.mul_one] at htk hcs
  have hrow : w.rowIs g 5 cap (fun i => cur[i]?.getD default) := ⟨cur, hg, hcs, fun i hi => by simp [hcs, hi]⟩
  have hne : g ≠ T := by
    intro e
    subst e
    rw [hg] at hT
    simp at hT
  have hcon := Ybad.hex_Encode g n 32 cd cap (fun i => cur[i]?.getD default) T 0 16 cs (m.1.map fun b => (b.toNat : Int)) w (by simp [m.2]) ?_ ?_ hrow hroom (by omega) hne (by omega)
  · refine hcon.mono ?_
    rintro e w' ⟨rfl, hr, hgr⟩
    refine ⟨rfl, ?_, ⟨(Below.refl B w).grown hgr hBw (fun k hk => by cases hk; exact hB), (Lib.OthersKept.refl 5 none w).grown hgr (fun k hk => by cases hk; exact ⟨_, _, hg⟩)⟩⟩
    obtain ⟨c, hc1, hc2, hc3⟩ := hr
    rw [bytesOf_nats] at hc3
    have hxl : xs.length = n := by have := hown.1; omega
    have hel : (Lib.Hx.encode m.1).length = 32 := by rw [Lib.Hx.encode_length, m.2]
    refine ⟨?_, Or.inr ⟨g, cap, c, rfl, hB, hc1, hroom, hcm, by omega, ?_⟩⟩
    · rw [List.length_append, hxl, byteCells_length, hel]
      omega
    · rw [Nat.mul_one]
      apply List.ext_getElem?
      intro j
      by_cases hj : j < n + 32
      · rw [List.getElem?_take_of_lt hj, Array.getElem?_toList, hc3 j (by omega)]
        by_cases hjn : j < n
        · have h1 : (cur.toList.take n)[j]? = xs[j]? := by rw [htk]
          rw [List.getElem?_take_of_lt hjn, Array.getElem?_toList] at h1
          rw [List.getElem?_append_left (by omega), ← h1]
          simp only [Lib.Hx.row]
          rw [if_neg (by omega)]
          simp [show j < cur.size by omega]
        · rw [List.getElem?_append_right (by omega), hxl]
          simp only [Lib.Hx.row]
          rw [if_pos ⟨by omega, by omega⟩]
          have h2 : j - n < (Lib.Hx.encode m.1).length := by omega
          simp [Lib.byteCells, List.getElem?_eq_getElem h2]
      · rw [List.getElem?_eq_none (by simp; omega), List.getElem?_eq_none (by rw [List.length_append, byteCells_length, hxl, hel]; omega)]
  · intro i hi
    have h2 : i < m.1.length := by rw [m.2]; exact hi
    have := (m.1[i]).toNat_lt
    simp [List.getD, List.getElem?_eq_getElem h2]
    omega
  · intro i hi
    have h2 : i < m.1.length := by rw [m.2]; exact hi
    have h3 : w.cell? ⟨T, 0 + i, none⟩ = m.cells[i]? := by simp [World.cell?, hT]
    rw [h3, m.cell i hi]
    simp [List.getD, List.getElem?_eq_getElem h2]

set_option maxHeartbeats 1000000 in
theorem appendEncode_any (B n : Nat) (m : Key) (T : Nat) (sv : Value) (xs : List Value) (w : World) (hown : w.ownsRow B 5 1 sv n xs) (hBw : B ≤ w.heap.size) (hlim : n + 40 ≤ 140737488355328)
    (hT : w.heap[T]? = some (.cells m.cells.toArray 32)) :
    Calls Ybad.prog 22 #[sv, .slice (some ⟨T, 0, none⟩) 16 16] w fun e w' => ∃ v', e = .returned v' ∧ w'.ownsRow B 5 1 v' (n + 32) (xs ++ Lib.byteCells (Lib.Hx.encode m.1)) ∧ Kp B w w' := by
  have hel := Ybad.hex_EncodedLen 16 (by omega) (by omega) w
  have hgw := grow_any B n sv xs w hown hBw hlim
  go_enter Ybad.func22, Ybad.ntmps22
  go_wp2_with (first | (go_at_call 38; refine hel.mono ?_; rintro e w' ⟨rfl, rfl⟩) | (go_at_call 39; refine hgw.mono ?_; rintro e w1 ⟨g, cap, rfl, hroom, hown1, hkp1⟩))
  have hT1 : w1.heap[T]? = some (.cells m.cells.toArray 32) := hkp1.others _ _ hT (by simp) (by simp)
  have hsz1 := hkp1.below.size
  refine (encode_any B n g cap m T xs w1 hown1 (by omega) hroom hT1 _ _).mono ?_
  rintro e w2 ⟨rfl, hown2, hkp2⟩
  go_wp2
  go_ret
  exact ⟨_, rfl, hown2, hkp1.trans hkp2⟩

theorem memAppend_any (B n : Nat) (m : Key) (sv : Value) (xs : List Value) (w : World) (hown : w.ownsRow B 5 1 sv n xs) (hBw : B ≤ w.heap.size) (hlim : n + 40 ≤ 140737488355328) :
    Calls Ybad.prog 16 #[.agg m.cells.toArray, sv] w fun e w' => ∃ v', e = .returned v' ∧ w'.ownsRow B 5 1 v' (n + 32) (xs ++ Lib.byteCells (Lib.Hx.encode m.1)) ∧ Kp B w w' := by
  have hc := appendEncode_any B n m w.heap.size sv xs (w.alloc (.cells m.cells.toArray 32)) (hown.alloc _) (by simp; omega) hlim (heap_alloc_new w _)
  have sa := slice32a
  go_enter Ybad.func16, Ybad.ntmps16
  go_wp2_with (go_at_call 22; refine hc.mono ?_; rintro e w' ⟨v', rfl, h1, h2⟩)
  go_ret
  exact ⟨v', rfl, h1, ((Kp.refl B w).alloc hBw _).trans h2⟩
end Go.Proofs.YbulkedvmDoor
