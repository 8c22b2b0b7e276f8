/-
  THE WALK of paxos.LawS2177ABuilt (function 4), and the plain laws that it wants.
-/
import Derived.Test.YbulkasbgWalks
namespace Go.Proofs.Ybulkasbg
open Go.RowKit

/-- The sums that are built: of the first k gaps, each with 1. -/
def sums (zs : List Int) : Nat → Int
  | 0 => 0
  | k + 1 => sums zs k + (zs.getD k 0 + 1)

theorem sums_bound (zs : List Int) (hb : ∀ i, 0 ≤ zs.getD i 0 ∧ zs.getD i 0 ≤ 255) : ∀ k : Nat, 0 ≤ sums zs k ∧ sums zs k ≤ 256 * (k : Int)
  | 0 => by simp [sums]
  | k + 1 => by
    have h := sums_bound zs hb k
    have hk := hb k
    simp only [sums]
    omega

theorem built_asc (zs xs : List Int) (hb : ∀ i, 0 ≤ zs.getD i 0 ∧ zs.getD i 0 ≤ 255) (h : ∀ j, j < xs.length → xs.getD j 0 = sums zs (j + 1)) : Asc xs := by
  intro i hi
  refine ⟨fun e => ?_, fun h0 => ?_⟩
  · rw [h 0 (by omega)]
    have := hb 0
    simp only [sums]
    omega
  · rw [h i hi, h (i - 1) (by omega), show i - 1 + 1 = i by omega]
    have := hb i
    simp only [sums]
    omega

theorem getD_set (xs : List Int) (i j : Nat) (v : Int) (hi : i < xs.length) : (xs.set i v).getD j 0 = if i = j then v else xs.getD j 0 := by
  simp only [List.getD, List.getElem?_set]
  by_cases e : i = j
  · subst e; simp [hi]
  · simp [e]

theorem bad_first (xs : List Int) (h : 0 < xs.length) : ¬ Asc (xs.set 0 0) := by
  intro ha
  have h1 := (ha 0 (by simpa using h)).1 rfl
  rw [getD_set xs 0 0 0 h] at h1
  simp at h1

theorem bad_later (xs : List Int) (k : Nat) (h0 : 0 < k) (h : k < xs.length) : ¬ Asc (xs.set k (xs.getD (k - 1) 0)) := by
  intro ha
  have h1 := (ha k (by simpa using h)).2 h0
  rw [getD_set xs k k _ h, getD_set xs k (k - 1) _ h, if_neg (by omega), if_pos rfl] at h1
  omega

/-- The slice that was made: its row holds the numbers xs. -/
def Row (g n : Nat) (w : World) (xs : List Int) : Prop := w.ownsRow g 26 1 (.slice (some ⟨g, 0, none⟩) n n) n (xs.map (Value.int .u64))

theorem Row.length {g n : Nat} {w : World} {xs : List Int} (h : Row g n w xs) : xs.length = n := by simpa using h.1
theorem Row.cell {g n : Nat} {w : World} {xs : List Int} (h : Row g n w xs) (j : Nat) (hj : j < n) : w.cell? ⟨g, j, none⟩ = some (.int .u64 (xs.getD j 0)) := by
  have hl := h.length
  rw [World.ownsRow.cellAt h j (by omega)]
  simp [List.getD, show j < xs.length by omega]
theorem Row.free {g n : Nat} {w : World} {xs : List Int} (h : Row g n w xs) (j : Nat) : w.frozen? ⟨g, j, none⟩ = false := World.ownsRow.frozenAt h j
theorem Row.set {g n : Nat} {w : World} {xs : List Int} (h : Row g n w xs) (j : Nat) (v : Int) : Row g n (w.setCell ⟨g, j, none⟩ (.int .u64 v)) (xs.set j v) := by
  have h1 := (World.ownsRow.stored h j (.int .u64 v)).1
  unfold Row
  rw [List.map_set]
  exact h1

theorem info26 : (Yba.prog.info? 26).map (fun i => (i.zero, i.size, i.bytes)) = some (some (.int .u64 0), 1, 8) := by kernel_rfl

theorem row_made {g n : Nat} {w : World} (h : w.ownsRow g 26 1 (.slice (some ⟨g, 0, none⟩) n n) n (madeCells #[Value.int .u64 0] n).toList) : Row g n w (List.replicate n 0) := by
  rw [toList_madeCells_one] at h
  unfold Row
  rw [List.map_replicate]
  exact h

theorem row_asc {g n : Nat} {w : World} {xs : List Int} (h : Row g n w xs) (hn : n ≤ 4096) (B : Bool) (hB : B = true ↔ Asc xs) :
    Calls Yba.prog 5 #[.slice (some ⟨g, 0, none⟩) n n] w fun e w' => e = .returned (.bool B) ∧ w' = w :=
  asc_walk g 0 n n xs w B hB h.length (by omega) (fun i hi => by rw [Nat.zero_add]; exact h.cell i hi)

set_option maxHeartbeats 1000000 in
theorem built_walk (a0 : Option Addr) (len0 cap0 : Nat) (zs : List Int) (a1 : Int) (w : World) (hlen : len0 ≤ 4096) (hp0 : 0 ≤ a1) (hp1 : a1 ≤ 65535)
    (hops : 0 < len0 → ∃ b off, a0 = some ⟨b, off, none⟩ ∧ ∀ i, i < len0 → w.cell? ⟨b, off + i, none⟩ = some (.int .u8 (zs.getD i 0))) (hzb : ∀ i, 0 ≤ zs.getD i 0 ∧ zs.getD i 0 ≤ 255) :
    Calls Yba.prog 4 #[.slice a0 len0 cap0, .int .u16 a1] w fun e w' => e = .returned (.bool true) ∧ Below w.heap.size w w' := by
  obtain ⟨i0, hi, hz0, hz1, hz2⟩ := info_parts info26
  go_enter Yba.func4, Yba.ntmps4
  go_wp2_with (at_make; refine wpList_make_full _ rfl _ _ 22 rfl w.heap.size 26 i0 (.int .u64 0) 1 Yba.underlying22 hi hz0 hz1 _ _ _ _ len0 rfl rfl rfl rfl ?b2 ?b3 ?b4 ?_)
  case b2 => rw [hz2]; omega
  case b3 => unfold maxLen; omega
  case b4 => exact Nat.le_refl _
  intro w1 hown hgrow
  have hR1 := row_made hown
  have hB1 : Below w.heap.size w w1 := (Below.refl _ _).grown hgrow (Nat.le_refl _) (fun k h => by cases h)
  clear hown hgrow
  go_wp2_with fail
  go_loopw [6, 18] (fun cur i wr => ∃ (k : Nat) (xs : List Int), k ≤ len0 ∧ i = .int .i64 k ∧ cur = .int .u64 (sums zs k) ∧ Row w.heap.size len0 wr xs ∧ (∀ j, j < k → xs.getD j 0 = sums zs (j + 1)) ∧ Below w.heap.size w wr) (fun _ i _ => len0 - (intOf i).toNat)
  case atStart => exact ⟨0, _, by omega, rfl, rfl, hR1, fun j h => by omega, hB1⟩
  case round =>
    clear hR1 hB1
    obtain ⟨k, xs, hk, rfl, rfl, hR, hsum, hB⟩ := hrel
    have HSUM : Hid (∀ j, j < k → xs.getD j 0 = sums zs (j + 1)) := hsum
    clear hsum
    by_cases hlt : k < len0
    · obtain ⟨b, off, ha0, hcell⟩ := hops (by omega)
      have hc : wr.cell? ⟨b, off + k, none⟩ = some (.int .u8 (zs.getD k 0)) := by
        have h := hcell k hlt
        rw [hB.cell (World.block_lt_of_cell? w _ h), h]
      have hx := hR.cell k hlt
      have hfz := hR.free k
      have hsb := sums_bound zs hzb k
      have hzk := hzb k
      have HN : Hid (sums zs (k + 1) = sums zs k + (zs.getD k 0 + 1)) := rfl
      have HR : Hid (∀ v, Row w.heap.size len0 (wr.setCell ⟨w.heap.size, k, none⟩ (.int .u64 v)) (xs.set k v)) := fun v => hR.set k v
      have HL : Hid (xs.length = len0) := hR.length
      subst ha0
      generalize zs.getD k 0 = z at hc hzk HN
      generalize sums zs k = c at hsb HN ⊢
      generalize xs.getD k 0 = x0 at hx
      clear hcell hops hzb hR
      go_wp2_with fail
      go_roundw
      case rel =>
        refine ⟨k + 1, xs.set k (sums zs (k + 1)), by omega, by go_num, ?_, ?_, ?_, ?_⟩
        · rw [HN.out]
        · rw [HN.out]; exact HR.out _
        · intro j hj
          rw [getD_set xs k j _ (by rw [HL.out]; exact hlt)]
          by_cases e : k = j
          · rw [if_pos e, e]
          · rw [if_neg e]; exact HSUM.out j (by omega)
        · exact hB.setCell (Nat.le_refl _) _
      case measure => simp [intOf]; omega
    · have hkl : k = len0 := by omega
      have hl := hR.length
      have hasc := built_asc zs xs hzb (fun j hj => HSUM.out j (by omega))
      have h1 := row_asc hR hlen true (by simp [hasc])
      clear hops hzb HSUM hasc hkl
      generalize sums zs k = c0
      rcases Nat.eq_zero_or_pos len0 with h0 | h0
      · have hl0 : ((len0 : Int) == 0) = true := by simp [h0]
        clear hl h0
        go_wp2_with fail
        refine h1.mono ?_
        rintro e w2 ⟨rfl, hw2⟩
        subst w2
        go_wp2_with fail
        go_ret
        exact ⟨rfl, hB⟩
      · have hl0 : ((len0 : Int) == 0) = false := by simp; omega
        have hmod := Int.emod_lt_of_pos a1 (show (0 : Int) < (len0 : Int) by omega)
        have hmod0 := Int.emod_nonneg a1 (show (len0 : Int) ≠ 0 by omega)
        obtain ⟨q, hq⟩ : ∃ q : Nat, a1 % (len0 : Int) = (q : Int) := ⟨(a1 % (len0 : Int)).toNat, by omega⟩
        have hqn : q < len0 := by omega
        clear hmod hmod0
        have hx := hR.cell q hqn
        have hfz := hR.free q
        by_cases hq0 : q = 0
        · subst hq0
          have h2 := row_asc (hR.set 0 0) hlen false (by simp; exact bad_first xs (by omega))
          have hB2 : Below w.heap.size w (wr.setCell ⟨w.heap.size, 0, none⟩ (.int .u64 0)) := hB.setCell (Nat.le_refl _) _
          generalize xs.getD 0 0 = x0 at hx
          clear hR hl
          go_wp2_with fail
          refine h1.mono ?_
          rintro e w2 ⟨rfl, hw2⟩
          subst w2
          clear h1
          go_wp2_with fail
          refine h2.mono ?_
          rintro e w2 ⟨rfl, hw2⟩
          subst w2
          go_wp2_with fail
          go_ret
          exact ⟨rfl, hB2⟩
        · have h2 := row_asc (hR.set q (xs.getD (q - 1) 0)) hlen false (by simp only [Bool.false_eq_true, false_iff]; exact bad_later xs q (by omega) (by omega))
          have hB2 : ∀ v, Below w.heap.size w (wr.setCell ⟨w.heap.size, q, none⟩ v) := fun v => hB.setCell (Nat.le_refl _) _
          have hx1 := hR.cell (q - 1) (by omega)
          have hqi : ((q : Int) == 0) = false := by simp; omega
          have hq1 : 1 ≤ q := by omega
          generalize xs.getD q 0 = x0 at hx
          generalize xs.getD (q - 1) 0 = x1 at hx1 h2
          clear hR hl hq0
          go_wp2_with fail
          refine h1.mono ?_
          rintro e w2 ⟨rfl, hw2⟩
          subst w2
          clear h1
          go_wp2_with fail
          refine h2.mono ?_
          rintro e w2 ⟨rfl, hw2⟩
          subst w2
          go_wp2_with fail
          go_ret
          exact ⟨rfl, hB2 _⟩

end Go.Proofs.Ybulkasbg
