/-
  CONTRACTS OF THE FUNCTIONS ON THE ROAD OF SEAT b2173a: zzs2173ccopy (5), encoding/binary.AppendUvarint (9), appendValue (6).
-/
import Derived.Test.YbulkarzcRows
import Derived.Test.YbulkarzcKit
import Derived.Laws.CopyOwn
import Derived.WalkSpells
import Derived.Lib.Slices
namespace Go.Proofs.Ybulkarzc
open Go.RowKit

theorem info5 : (Yba.prog.info? 5).map (fun i => (i.zero, i.size, i.bytes)) = some (some (.int .u8 0), 1, 1) := by kernel_rfl
theorem size5 : (Yba.prog.info? 5).map (·.size) = some 1 := by kernel_rfl

set_option maxHeartbeats 400000 in
theorem copy_any (a : Option Addr) (len cap : Nat) (zs : List Int) (w : World) (hlen : zs.length = len) (hsmall : len ≤ 65536)
    (hc : ∀ x, a = some x → ∀ i, i < len → w.cell? (x.add i) = some (.int .u8 (zs.getD i 0))) (hnone : a = none → len = 0) :
    Calls Yba.prog 5 #[.slice a len cap] w fun e w' => e = .returned (.slice (some ⟨w.heap.size, 0, none⟩) len len) ∧ w'.heap[w.heap.size]? = some (.cells (zs.map (Value.int .u8)).toArray 5 (0, 0)) ∧ Below w.heap.size w w' := by
  obtain ⟨i0, hi, hz0, hz1, hz2⟩ := info_parts info5
  go_enter Yba.func5, Yba.ntmps5
  go_wp2_with (at_make; refine wpList_make_full _ rfl _ _ 22 rfl w.heap.size 5 i0 (.int .u8 0) 1 Yba.underlying22 hi hz0 hz1 _ _ _ _ len rfl rfl rfl rfl ?b2 ?b3 ?b4 ?_)
  case b2 => rw [hz2]; omega
  case b3 => unfold maxLen; omega
  case b4 => exact Nat.le_refl _
  intro w1 hown hgrow
  have hrow : ∃ cur : List Value, w1.heap[w.heap.size]? = some (.cells cur.toArray 5 (0, 0)) ∧ cur.length = len := by
    rcases hown.2 with ⟨h, _⟩ | ⟨g, cp, cur, hv, _, hg, _, _, hs, _⟩
    · cases h
    · cases hv
      exact ⟨cur.toList, by simpa using hg, by simpa using hs⟩
  obtain ⟨cur, hcur, hcl⟩ := hrow
  have hb1 : Below w.heap.size w w1 := (Below.refl _ _).grown hgrow (Nat.le_refl _) (fun k h => by cases h)
  have HC : Hid (w1.heap[w.heap.size]? = some (.cells cur.toArray 5 (0, 0))) := hcur
  have HL : Hid (cur.length = len) := hcl
  clear hown hgrow hcur hcl
  have hpos : 0 < (zs.map (Value.int .u8)).length → (some ⟨w.heap.size, 0, none⟩ : Option Addr) = some ⟨w.heap.size, 0, none⟩ ∧ ∃ ad, a = some ad ∧ ∀ j v, (zs.map (Value.int .u8))[j]? = some v → w1.cell? (ad.add j) = some v := by
    intro hp
    cases a with
    | none => have := hnone rfl; simp at hp; omega
    | some x =>
      refine ⟨rfl, x, rfl, fun j v hj => ?_⟩
      have hjl : j < len := by have := (List.getElem?_eq_some_iff.1 hj).1; simpa [hlen] using this
      have hcell := hc x rfl j hjl
      have hxb : (x.add j).block < w.heap.size := World.block_lt_of_cell? w _ hcell
      rw [hb1.cell hxb, hcell]
      rw [← hj]
      simp [List.getD, show j < zs.length by omega]
  have HP : Hid _ := hpos
  have hn1 : Hid ((zs.map (Value.int .u8)).length = Nat.min len len) := by show _ = _; simp [hlen]
  have hn3 : Hid (0 + (zs.map (Value.int .u8)).length ≤ cur.length) := by show _ ≤ _; have := HL.out; simp; omega
  clear hpos
  go_wp2_with (refine wpList_copy_splice rfl (.tmp 7) (.tmp 8) 22 22 rfl 5 Yba.underlying22 size5 _ _ _ _ _ _ rfl rfl w.heap.size 0 cur 5 HC.out (zs.map (Value.int .u8)) hn1.out HP.out hn3.out (ints_oneCell _ _) w.heap.size w hb1 (Nat.le_refl _) ?_)
  intro w2 HG2 hB2
  go_wp2
  go_ret
  refine ⟨rfl, ?_, hB2⟩
  have h := HG2.out
  have e : splice cur 0 (zs.map (Value.int .u8)) = zs.map (Value.int .u8) := by
    have hl := HL.out
    simp [splice, hlen, hl]
  rw [e] at h
  exact h

theorem one_new (w : World) (v : Value) (t : TypeId) : ∀ j u, [v][j]? = some u → (w.alloc (.cells #[v] t)).cell? ((⟨w.heap.size, 0, none⟩ : Addr).add j) = some u := by
  intro j u hj
  match j, hj with
  | 0, hj => simp at hj; subst hj; simp [Addr.add]

set_option maxHeartbeats 4000000 in
set_option maxRecDepth 100000 in
theorem appendUvarint_any (n x : Nat) (hx : x < 18446744073709551616) (sv : Value) (xs : List Value) (w : World) (hown : w.ownsRow 0 5 1 sv n xs) (hlim : n + 10 ≤ 140737488355328) :
    Calls Yba.prog 9 #[sv, .int .u64 x] w fun e w' => ∃ v', e = .returned v' ∧ w'.ownsRow 0 5 1 v' (n + (Lib.uvarint x).length) (xs ++ Lib.byteCells (Lib.uvarint x)) ∧ Onw w sv w' v' := by
  obtain ⟨i0, hi, hz0, hz1, hz2⟩ := info_parts info5
  have hlen := Lib.uvarint_length64 hx
  go_enter Yba.func9, Yba.ntmps9
  go_wp2
  go_loopw [0, 1] (fun vb vx wr => ∃ (y : Nat) (pre : List UInt8), vx = .int .u64 y ∧ y ≤ x ∧ Lib.uvarint x = pre ++ Lib.uvarint y ∧ wr.ownsRow 0 5 1 vb (n + pre.length) (xs ++ Lib.byteCells pre) ∧ Onw w sv wr vb)
    (fun _ vx _ => (intOf vx).toNat)
  case atStart => exact ⟨x, [], rfl, Nat.le_refl _, rfl, by simpa [Lib.byteCells] using hown, Onw.start _ _⟩
  case round =>
    obtain ⟨y, pre, rfl, hy, hsplit, hown1, hnx⟩ := hrel
    have hpl : pre.length + (Lib.uvarint y).length ≤ 10 := by
      have h2 := congrArg List.length hsplit
      rw [List.length_append] at h2
      omega
    have hyp := Lib.uvarint_pos y
    have HS : Hid (Lib.uvarint x = pre ++ Lib.uvarint y) := hsplit
    clear hsplit
    by_cases h128 : 128 ≤ y
    · have hor : bits .or .u8 ((y : Int) % 256) 128 = ((y % 128 + 128 : Nat) : Int) := by
        rw [Lib.u8_or128_any _ (by omega) (by omega)]
        omega
      go_wp2_with (at_builtin; refine wpList_append_own2 _ rfl _ _ 22 rfl 0 5 i0 (.int .u8 0) 1 1 Yba.underlying22 hi hz0 hz1 hz2 rfl (by decide) _ _ _ rfl (hown1.alloc _) ⟨wr.heap.size, 0, none⟩ 1 1 [Value.int .u8 ((y % 128 + 128 : Nat) : Int)] rfl rfl ?c1 ?c2 ?c3 ?c4 ?c5 ?_)
      case c1 =>
        intro j u hj
        match j, hj with
        | 0, hj => simp at hj; subst hj; simp [Addr.add]
      case c2 => intro u hu; simp at hu; subst hu; rfl
      case c3 => unfold maxLen; omega
      case c4 => omega
      case c5 => omega
      intro v' w1 hown' hgrow hplace
      have hnx1 : Onw w sv w1 v' := (hnx.alloc _).step hgrow (by simpa using hplace)
      clear hgrow hplace
      go_wp2
      go_roundw
      case rel =>
        refine ⟨y / 128, pre ++ [(y % 128 + 128).toUInt8], by go_num, by omega, by rw [HS.out, Lib.uvarint_big h128]; simp, ?_, hnx1⟩
        have ec : ((y % 128 + 128 : Nat) : Int) = (y : Int) % 128 + 128 := by omega
        rw [Lib.byteCells_snoc pre (by omega), List.length_append, List.length_singleton, ← Nat.add_assoc, ec]
        exact hown'
      case measure => simp [intOf]; omega
    · have hsm : Lib.uvarint y = [y.toUInt8] := Lib.uvarint_small (by omega)
      go_wp2_with (at_builtin; refine wpList_append_own2 _ rfl _ _ 22 rfl 0 5 i0 (.int .u8 0) 1 1 Yba.underlying22 hi hz0 hz1 hz2 rfl (by decide) _ _ _ rfl (hown1.alloc _) ⟨wr.heap.size, 0, none⟩ 1 1 [Value.int .u8 (y : Int)] rfl rfl ?c1 ?c2 ?c3 ?c4 ?c5 ?_)
      case c1 =>
        intro j u hj
        match j, hj with
        | 0, hj => simp at hj; subst hj; simp [Addr.add]
      case c2 => intro u hu; simp at hu; subst hu; rfl
      case c3 => unfold maxLen; omega
      case c4 => omega
      case c5 => omega
      intro v' w1 hown' hgrow hplace
      have hnx1 : Onw w sv w1 v' := (hnx.alloc _).step hgrow (by simpa using hplace)
      clear hgrow hplace
      go_wp2
      go_ret
      refine ⟨v', rfl, ?_, hnx1⟩
      rw [HS.out, hsm, Lib.byteCells_snoc pre (by omega), List.length_append, List.length_singleton, ← Nat.add_assoc]
      exact hown'

set_option maxHeartbeats 400000 in
theorem appendValue_nil (n : Nat) (sv : Value) (xs : List Value) (w : World) (hown : w.ownsRow 0 5 1 sv n xs) (hlim : n + 10 ≤ 140737488355328) :
    Calls Yba.prog 6 #[sv, .slice none 0 0] w fun e w' => ∃ v', e = .returned v' ∧ w'.ownsRow 0 5 1 v' (n + (Lib.uvarint 0).length) (xs ++ Lib.byteCells (Lib.uvarint 0)) ∧ Onw w sv w' v' := by
  have q22 : ∀ (w : World) (a : Option Addr) (n c n' c' : Nat), (binOp .eql 22 (.slice a n c) (.slice none n' c')).run Yba.prog w = .ok (.bool a.isNone) w := fun w a n c n' c' => Lib.run_eql_slice_nil w _ _ a n c n' c' Yba.underlying22
  go_enter Yba.func6, Yba.ntmps6
  go_wp2_with (go_at_call 9; refine (appendUvarint_any n 0 (by omega) _ xs _ hown hlim).mono ?_; rintro e w1 ⟨v1, rfl, hown1, hon1⟩)
  go_ret
  exact ⟨v1, rfl, hown1, hon1⟩

set_option maxHeartbeats 400000 in
theorem appendValue_some (n g len : Nat) (sv : Value) (xs cs : List Value) (w : World) (hown : w.ownsRow 0 5 1 sv n xs) (hlim : n + 70000 ≤ 140737488355328) (hlen : len ≤ 65536)
    (hg : w.heap[g]? = some (.cells cs.toArray 5 (0, 0))) (hcl : cs.length = len) (h1 : ∀ u ∈ cs, u.oneCell' = true) (hne : sv.ownBlock ≠ some g) :
    Calls Yba.prog 6 #[sv, .slice (some ⟨g, 0, none⟩) len len] w fun e w' => ∃ v', e = .returned v' ∧ w'.ownsRow 0 5 1 v' (n + (Lib.uvarint (len + 1)).length + len) (xs ++ (Lib.byteCells (Lib.uvarint (len + 1)) ++ cs)) ∧ Onw w sv w' v' := by
  have q22 : ∀ (w : World) (a : Option Addr) (n c n' c' : Nat), (binOp .eql 22 (.slice a n c) (.slice none n' c')).run Yba.prog w = .ok (.bool a.isNone) w := fun w a n c n' c' => Lib.run_eql_slice_nil w _ _ a n c n' c' Yba.underlying22
  obtain ⟨i0, hi, hz0, hz1, hz2⟩ := info_parts info5
  have hlen64 := Lib.uvarint_length64 (x := len + 1) (by omega)
  have HG : Hid (w.heap[g]? = some (.cells cs.toArray 5 (0, 0))) := hg
  have HCL : Hid (cs.length = len) := hcl
  clear hg hcl
  go_enter Yba.func6, Yba.ntmps6
  go_wp2_with fail
  rw [show ((len : Int) + 1) = ((len + 1 : Nat) : Int) from by omega]
  refine (appendUvarint_any n (len + 1) (by omega) _ xs _ hown (by omega)).mono ?_
  rintro e w1 ⟨v1, rfl, hown1, hon1⟩
  have hg1 : Hid (w1.heap[g]? = some (.cells cs.toArray 5 (0, 0))) := by
    show _ = _
    rw [hon1.grown.block g (Array.getElem?_eq_some_iff.1 HG.out).1 (fun e => hne e.symm)]
    exact HG.out
  have hcells : ∀ j u, cs[j]? = some u → w1.cell? ((⟨g, 0, none⟩ : Addr).add j) = some u := by
    intro j u hu
    rw [Addr.add_lit, Nat.zero_add, cell_of_row w1 g j cs.toArray 5 (0, 0) hg1.out]
    simpa using hu
  have HCS : Hid _ := hcells
  have hc1 : Hid (cs.length = len * 1) := by show _ = _; have := HCL.out; omega
  have H63 : Hid (n + (Lib.uvarint (len + 1)).length + len ≤ maxLen) := by show _ ≤ _; unfold maxLen; omega
  have HB : Hid ((n + (Lib.uvarint (len + 1)).length + len) * 1 ≤ 140737488355328) := by show _ ≤ _; omega
  clear hcells
  go_wp2_with (at_builtin; refine wpList_append_own2 _ rfl _ _ 22 rfl 0 5 i0 (.int .u8 0) 1 1 Yba.underlying22 hi hz0 hz1 hz2 rfl (by decide) _ _ _ rfl hown1 ⟨g, 0, none⟩ len len cs rfl hc1.out HCS.out h1 H63.out HB.out (Nat.zero_le _) ?_)
  intro v2 w2 hown2 hgrow2 hplace2
  have hon2 := hon1.step hgrow2 hplace2
  clear hgrow2 hplace2
  go_wp2
  go_ret
  exact ⟨v2, rfl, hown2, hon2⟩
end Go.Proofs.Ybulkarzc
