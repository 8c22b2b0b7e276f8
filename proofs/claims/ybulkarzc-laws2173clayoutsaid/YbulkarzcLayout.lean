/-
  THE WALK OF 'wal.LawS2173CLayout' (function 3).
-/
import Derived.Test.YbulkarzcWalks
import Derived.Test.YbulkarzcShelf
import Derived.Test.YbulkarzcVarint
import Derived.Laws.BytesArg
namespace Go.Proofs.Ybulkarzc
open Go.RowKit

/-- The bytes as the numbers that the cells hold. -/
def nums (l : List UInt8) : List Int := l.map fun b => (b.toNat : Int)

theorem nums_cells (l : List UInt8) : (nums l).map (Value.int .u8) = Lib.byteCells l := by simp [nums, Lib.byteCells]
theorem nums_length (l : List UInt8) : (nums l).length = l.length := by simp [nums]

theorem conv_any (w : World) (a : Option Addr) (len cap : Nat) (xs : List Int) (hlen : xs.length = len) (hnone : a = none → len = 0)
    (hc : ∀ x, a = some x → ∀ i, i < len → w.cell? (x.add i) = some (.int .u8 (xs.getD i 0))) : (convert 22 9 (.slice a len cap)).run Yba.prog w = .ok (.string (strOfNums xs)) w := by
  cases a with
  | none =>
    obtain rfl : xs = [] := List.eq_nil_of_length_eq_zero (by have := hnone rfl; omega)
    exact run_convert_bytes_nil w 22 5 Yba.underlying22 Yba.underlying5 len cap 9 Yba.underlying9
  | some x =>
    have hl : (loadCells x len).run Yba.prog w = .ok (xs.map (Value.int .u8)).toArray w := by
      have := run_loadCells_list (P := Yba.prog) w x (xs.map (Value.int .u8)) (fun j v hj => by
        have hjl : j < xs.length := by have := (List.getElem?_eq_some_iff.1 hj).1; simpa using this
        rw [hc x rfl j (by omega), ← hj]
        simp [List.getD, hjl])
      simpa [hlen] using this
    rw [run_convert_bytes_string w 22 9 5 _ len cap Yba.underlying22 Yba.underlying5 Yba.underlying9, run_bytesToString w _ len cap xs hl, foldl_push_bytes]
    simp [strOfNums, ByteArray.empty, ByteArray.emptyWithCapacity]
    rfl

/-- bytes.Equal at two slices that hold the same bytes. -/
theorem equal_same (v1 v2 : Value) (s : ByteArray) (w : World) (h1 : (convert 22 9 v1).run Yba.prog w = .ok (.string s) w) (h2 : (convert 22 9 v2).run Yba.prog w = .ok (.string s) w) :
    Calls Yba.prog 7 #[v1, v2] w fun e w' => e = .returned (.bool true) ∧ w' = w := by
  have hs : (s.toList == s.toList) = true := by simp
  go_enter Yba.func7, Yba.ntmps7
  go_wp2
  go_ret
  exact ⟨rfl, rfl⟩

theorem owned_bytes {w : World} {v : Value} {n : Nat} {L : List UInt8} (h : w.ownsRow 0 5 1 v n (Lib.byteCells L)) (hL : L.length = n) (hn : 0 < n) : ∃ g cap, v = .slice (some ⟨g, 0, none⟩) n cap ∧ n ≤ cap ∧ ∀ j (hj : j < L.length), w.cell? ⟨g, j, none⟩ = some (.int .u8 (L[j]).toNat) := by
  have h0 := h
  rcases h.2 with ⟨rfl, rfl⟩ | ⟨g, cap, cur, rfl, _, hg, hnc, _, _, htake⟩
  · omega
  · exact ⟨g, cap, rfl, hnc, fun j hj => by rw [h0.cellAt j (by omega)]; simp [Lib.byteCells, hj]⟩

theorem at_eq (l : List UInt8) (a b : Nat) (ha : a < l.length) (hb : b < l.length) (h : a = b) : l[a] = l[b] := by subst h; rfl

/-- A window of a row of bytes, as 'string(..)' reads it. -/
theorem conv_window (w : World) (g o len cap : Nat) (l : List UInt8) (hl : l.length = len) (hc : ∀ j (hj : j < l.length), w.cell? ⟨g, o + j, none⟩ = some (.int .u8 (l[j]).toNat)) :
    (convert 22 9 (.slice (some ⟨g, o, none⟩) len cap)).run Yba.prog w = .ok (.string (strOfNums (nums l))) w := by
  refine conv_any w _ len cap (nums l) (by rw [nums_length, hl]) (fun h => by cases h) (fun x hx i hi => ?_)
  cases hx
  rw [Addr.add_lit, hc i (by omega)]
  simp [nums, List.getD, show i < l.length by omega]

theorem owned_copy {w : World} {g len : Nat} {l : List UInt8} (hg : w.heap[g]? = some (.cells ((nums l).map (Value.int .u8)).toArray 5 (0, 0))) (hl : l.length = len) (hs : len ≤ 65536) :
    w.ownsRow 0 5 1 (.slice (some ⟨g, 0, none⟩) len len) len (Lib.byteCells l) := by
  rw [nums_cells] at hg
  have hbl : (Lib.byteCells l).length = len := by simp [Lib.byteCells, hl]
  exact ⟨by omega, .inr ⟨g, len, _, rfl, Nat.zero_le _, hg, Nat.le_refl _, by unfold maxLen; omega, by simp [hbl], List.take_of_length_le (by simp [hbl])⟩⟩

set_option maxHeartbeats 1000000 in
theorem layout_nil (a0 a1 : Option Addr) (len0 cap0 len1 cap1 : Nat) (l0 : List UInt8) (w : World) (hl0 : l0.length = len0) (hs0 : len0 ≤ 65536) (hs1 : len1 ≤ 65536) (hn0 : a0 = none → len0 = 0)
    (hc0 : ∀ x, a0 = some x → ∀ i, i < len0 → w.cell? (x.add i) = some (.int .u8 ((nums l0).getD i 0))) :
    Calls Yba.prog 3 #[.slice a0 len0 cap0, .slice a1 len1 cap1, .bool true] w fun e w' => e = .returned (.bool true) ∧ Below w.heap.size w w' := by
  have hcp := copy_any a0 len0 cap0 (nums l0) w (by rw [nums_length, hl0]) hs0 hc0 hn0
  go_enter Yba.func3, Yba.ntmps3
  go_wp2_with fail
  refine hcp.mono ?_
  rintro e w1 ⟨rfl, hg1, hb1⟩
  go_wp2_with fail
  have hw1 : w.heap.size < w1.heap.size := (Array.getElem?_eq_some_iff.1 hg1).1
  refine (appendValue_nil len0 _ (Lib.byteCells l0) w1 (owned_copy hg1 hl0 hs0) (by omega)).mono ?_
  rintro e w2 ⟨v2, rfl, hown2, hon2⟩
  have hu : Lib.uvarint 0 = [0] := Lib.uvarint_small (by omega)
  rw [hu, ← Lib.byteCells_append] at hown2
  obtain ⟨g, cap, hv, hcap, hcell⟩ := owned_bytes hown2 (by simp [hl0]) (by simp)
  have hb2 : Below w.heap.size w w2 := hb1.grown hon2.grown hb1.size (fun k h => by simp [Value.ownBlock] at h; omega)
  have hv1 : (convert 22 9 (.slice (some ⟨g, 0, none⟩) len0 cap)).run Yba.prog w2 = .ok (.string (strOfNums (nums l0))) w2 := by
    refine conv_window w2 g 0 len0 cap l0 hl0 (fun j hj => ?_)
    rw [Nat.zero_add, hcell j (by simp; omega), List.getElem_append_left hj]
  have hv2 : (convert 22 9 (.slice a0 len0 cap0)).run Yba.prog w2 = .ok (.string (strOfNums (nums l0))) w2 := by
    refine conv_any w2 a0 len0 cap0 (nums l0) (by rw [nums_length, hl0]) hn0 (fun x hx i hi => ?_)
    have h := hc0 x hx i hi
    rw [hb2.cell (World.block_lt_of_cell? w _ h), h]
  have hz : w2.cell? ⟨g, len0 + 0, none⟩ = some (.int .u8 0) := by
    rw [Nat.add_zero, hcell len0 (by simp; omega)]
    simp [List.getElem_append_right, hl0]
  have heq := equal_same _ _ _ w2 hv1 hv2
  have huv := uvarint_any g len0 1 (cap - len0) [0] w2 rfl (fun j hj => by simp at hj; subst hj; exact hz)
  have hdec : Lib.uvarintDec [0] = (0, 1) := by decide
  rw [hdec] at huv
  simp only [List.length_singleton] at hv hcap
  clear hown2 hon2 hcell hu hg1 hb1 hcp hc0 hn0 hv1 hv2 hz hdec
  rw [hv]
  clear hv
  go_wp2_with fail
  refine heq.mono ?_
  rintro e w3 ⟨rfl, hw3⟩
  subst hw3
  clear heq
  go_wp2_with fail
  refine huv.mono ?_
  rintro e w4 ⟨rfl, hw4⟩
  subst hw4
  clear huv
  go_wp2
  go_ret
  exact ⟨rfl, hb2⟩

set_option maxHeartbeats 1000000 in
theorem layout_some (a0 a1 : Option Addr) (len0 cap0 len1 cap1 : Nat) (l0 l1 : List UInt8) (w : World) (hl0 : l0.length = len0) (hl1 : l1.length = len1) (hs0 : len0 ≤ 65536) (hs1 : len1 ≤ 65536) (hn0 : a0 = none → len0 = 0) (hn1 : a1 = none → len1 = 0)
    (hc0 : ∀ x, a0 = some x → ∀ i, i < len0 → w.cell? (x.add i) = some (.int .u8 ((nums l0).getD i 0)))
    (hc1 : ∀ x, a1 = some x → ∀ i, i < len1 → w.cell? (x.add i) = some (.int .u8 ((nums l1).getD i 0))) :
    Calls Yba.prog 3 #[.slice a0 len0 cap0, .slice a1 len1 cap1, .bool false] w fun e w' => e = .returned (.bool true) ∧ Below w.heap.size w w' := by
  have hcp := copy_any a0 len0 cap0 (nums l0) w (by rw [nums_length, hl0]) hs0 hc0 hn0
  go_enter Yba.func3, Yba.ntmps3
  go_wp2_with fail
  refine hcp.mono ?_
  rintro e w1 ⟨rfl, hg1, hb1⟩
  go_wp2_with fail
  have hw1 : w.heap.size < w1.heap.size := (Array.getElem?_eq_some_iff.1 hg1).1
  refine (copy_any a1 len1 cap1 (nums l1) w1 (by rw [nums_length, hl1]) hs1 (fun x hx i hi => by have h := hc1 x hx i hi; rw [hb1.cell (World.block_lt_of_cell? w _ h), h]) hn1).mono ?_
  rintro e w2 ⟨rfl, hg2, hb2⟩
  go_wp2_with fail
  have hg12 : w2.heap[w.heap.size]? = some (.cells ((nums l0).map (Value.int .u8)).toArray 5 (0, 0)) := (hb2.block _ hw1).trans hg1
  refine (appendValue_some len0 w1.heap.size len1 _ (Lib.byteCells l0) ((nums l1).map (Value.int .u8)) w2 (owned_copy hg12 hl0 hs0) (by omega) hs1 hg2 (by simp [nums, hl1]) (ints_oneCell _ _) (by simp [Value.ownBlock]; omega)).mono ?_
  rintro e w3 ⟨v3, rfl, hown3, hon3⟩
  rw [nums_cells, ← Lib.byteCells_append, ← Lib.byteCells_append] at hown3
  have hdec := dec_uvarint (len1 + 1) (by omega) l1
  have hup := Lib.uvarint_pos (len1 + 1)
  have hu10 := Lib.uvarint_length64 (x := len1 + 1) (by omega)
  generalize Lib.uvarint (len1 + 1) = ub at hown3 hdec hup hu10
  obtain ⟨g, cap, hv, hcap, hcell⟩ := owned_bytes hown3 (by simp [hl0, hl1]; omega) (by omega)
  have hb3 : Below w.heap.size w w3 := (hb1.trans (hb2.mono (by omega))).grown hon3.grown (by have := hb2.size; omega) (fun k h => by simp [Value.ownBlock] at h; omega)
  obtain ⟨u, hu⟩ : ∃ u, u = ub.length := ⟨_, rfl⟩
  rw [← hu] at hv hcap hup hu10 hdec
  rw [Nat.add_assoc] at hv hcap
  have hv1 : (convert 22 9 (.slice (some ⟨g, 0, none⟩) len0 cap)).run Yba.prog w3 = .ok (.string (strOfNums (nums l0))) w3 := by
    refine conv_window w3 g 0 len0 cap l0 hl0 (fun j hj => ?_)
    rw [Nat.zero_add, hcell j (by simp; omega), List.getElem_append_left hj]
  have hv2 : (convert 22 9 (.slice a0 len0 cap0)).run Yba.prog w3 = .ok (.string (strOfNums (nums l0))) w3 := by
    refine conv_any w3 a0 len0 cap0 (nums l0) (by rw [nums_length, hl0]) hn0 (fun x hx i hi => ?_)
    have h := hc0 x hx i hi
    rw [hb3.cell (World.block_lt_of_cell? w _ h), h]
  have hv4 : (convert 22 9 (.slice a1 len1 cap1)).run Yba.prog w3 = .ok (.string (strOfNums (nums l1))) w3 := by
    refine conv_any w3 a1 len1 cap1 (nums l1) (by rw [nums_length, hl1]) hn1 (fun x hx i hi => ?_)
    have h := hc1 x hx i hi
    rw [hb3.cell (World.block_lt_of_cell? w _ h), h]
  have hrest : ∀ j (hj : j < (ub ++ l1).length), w3.cell? ⟨g, len0 + j, none⟩ = some (.int .u8 ((ub ++ l1)[j]).toNat) := by
    intro j hj
    rw [hcell (len0 + j) (by simp at hj ⊢; omega), List.getElem_append_right (by omega), at_eq _ _ j _ hj (by omega)]
  have hv3 : ∀ o c, (0 < len1 → o = len0 + u) → (convert 22 9 (.slice (some ⟨g, o, none⟩) len1 c)).run Yba.prog w3 = .ok (.string (strOfNums (nums l1))) w3 := by
    intro o c ho
    refine conv_window w3 g o len1 c l1 hl1 (fun j hj => ?_)
    rw [ho (by omega), Nat.add_assoc, hrest (u + j) (by simp; omega), List.getElem_append_right (by omega), at_eq _ _ j _ hj (by omega)]
  have heq := equal_same _ _ _ w3 hv1 hv2
  have heq2 := fun o c ho => equal_same _ _ _ w3 (hv3 o c ho) hv4
  have huv := uvarint_any g len0 (u + len1) (cap - len0) (ub ++ l1) w3 (by simp [hu, hl1]) hrest
  rw [hdec] at huv
  clear hown3 hon3 hcell hg1 hb1 hcp hc0 hn0 hc1 hn1 hv1 hv2 hv3 hv4 hdec hrest hg2 hb2 hg12 hl0 hl1 hu hw1
  rw [hv]
  clear hv
  go_wp2_with fail
  refine heq.mono ?_
  rintro e w4 ⟨rfl, hw4⟩
  subst hw4
  clear heq
  go_wp2_with fail
  refine huv.mono ?_
  rintro e w4 ⟨rfl, hw4⟩
  subst hw4
  clear huv
  go_wp2_with fail
  · refine (heq2 len0 0 (by omega)).mono ?_
    rintro e w5 ⟨rfl, hw5⟩
    subst hw5
    go_wp2
    go_ret
    exact ⟨rfl, hb3⟩
  · refine (heq2 (len0 + u) (cap - len0 - u) (by omega)).mono ?_
    rintro e w5 ⟨rfl, hw5⟩
    subst hw5
    go_wp2
    go_ret
    exact ⟨rfl, hb3⟩

end Go.Proofs.Ybulkarzc
