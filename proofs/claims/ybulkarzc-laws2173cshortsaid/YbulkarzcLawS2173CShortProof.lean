/-
  PROOF OF 'Rows.LawS2173CShortSaid'. The frame was written by program (proof-skeleton.mjs); the walk (STEP 1 and what stands ahead of it) is mine.
-/
import Derived.Test.YbulkarzcRows
import Derived.WalkKit
import Derived.ProofKit
import Derived.OpenShut
import Derived.ShutString
import Derived.ChangeOld
import Derived.Below
import Derived.Test.YbulkarzcWalks
import Derived.Deep.QuietTactic
import Derived.BigQuiet
namespace Go.Proofs.Ybulkarzc.lawS2173CShort
open Go.ChangeShapes Go.WideShapes Go.ChangeAt Go.RowKit
open Go.ChangeMaps (open_string shut_string)
set_option linter.unusedVariables false

theorem own : ownKnob Yba.prog.godebug = none := by kernel_rfl
theorem laidOut : laidOutB Yba.prog = true := by kernel_rfl

/-- WHAT THE WALK IS TOLD OF A SLICE OF INTEGERS THAT CAME IN: it is nil; or it leads to a row of 'cap' cells, the numbers 'zs' (the first 'len' are its elements, the rest its spare room), each fitting its kind. -/
def IsRow (k : IntKind) (w : World) (a : Option Addr) (len cap : Nat) (zs : List Int) : Prop :=
  (a = none ∧ len = 0 ∧ cap = 0 ∧ zs = []) ∨
  ∃ x, a = some x ∧ len ≤ cap ∧ cap ≤ maxLen ∧ zs.length = cap ∧ (∀ i, i < zs.length → w.cell? (x.add i) = some (.int k (zs.getD i 0))) ∧ ∀ n ∈ zs, (Lit.int k n).wf = true

theorem owned_shape {w : World} {v : Value} {n : Nat} {xs : List Value} (h : w.ownsRow 0 5 1 v n xs) (hn : 0 < n) : ∃ g cap, v = .slice (some ⟨g, 0, none⟩) n cap ∧ n ≤ cap ∧ ∀ j, j < n → w.cell? ⟨g, j, none⟩ = xs[j]? := by
  have h0 := h
  rcases h.2 with ⟨rfl, rfl⟩ | ⟨g, cap, cur, rfl, _, hg, hnc, _, _, htake⟩
  · omega
  · exact ⟨g, cap, rfl, hnc, fun j hj => h0.cellAt j (by omega)⟩

set_option maxHeartbeats 400000 in
theorem walk_nil (a0 : Option Addr) (len0 cap0 : Nat) (w : World) (hlen : len0 ≤ 126) :
    Calls Yba.prog 4 #[.slice a0 len0 cap0, .bool true] w fun e w' => e = .returned (.bool true) ∧ Below w.heap.size w w' := by
  go_enter Yba.func4, Yba.ntmps4
  go_wp2_with fail
  refine (appendValue_nil 0 (.slice none 0 0) [] w (World.ownsRow_nil _ _ _ _) (by omega)).mono ?_
  rintro e w1 ⟨v1, rfl, hown1, hon1⟩
  have hu : Lib.uvarint 0 = [0] := Lib.uvarint_small (by omega)
  rw [hu] at hown1
  obtain ⟨g, cap, hv, hcap, hcell⟩ := owned_shape hown1 (by simp)
  have hb : Below w.heap.size w w1 := (Below.refl _ _).grown hon1.grown (Nat.le_refl _) (fun k h => by simp [Value.ownBlock] at h)
  have hc0 : w1.cell? ⟨g, 0, none⟩ = some (.int .u8 0) := by rw [hcell 0 (by simp)]; rfl
  clear hown1 hon1 hcell hu
  rw [hv]
  go_wp2
  go_ret
  exact ⟨rfl, hb⟩

theorem row_facts {w : World} {a : Option Addr} {len cap : Nat} {zs : List Int} (h : IsRow .u8 w a len cap zs) :
    (zs.take len).length = len ∧ (∀ x, a = some x → ∀ i, i < len → w.cell? (x.add i) = some (.int .u8 ((zs.take len).getD i 0))) ∧ (a = none → len = 0) ∧
    (0 < len → ∃ b off, a = some ⟨b, off, none⟩ ∧ b < w.heap.size ∧ ∀ i, i < len → w.cell? ⟨b, off + i, none⟩ = some (.int .u8 ((zs.take len).getD i 0))) := by
  rcases h with ⟨rfl, rfl, rfl, rfl⟩ | ⟨x, rfl, hlc, _, hz, hcell, _⟩
  · exact ⟨rfl, fun x h => (by cases h), fun _ => rfl, fun h => (by omega)⟩
  · have hc : ∀ i, i < len → w.cell? (x.add i) = some (.int .u8 ((zs.take len).getD i 0)) := by
      intro i hi
      rw [hcell i (by omega)]
      simp [List.getD, hi]
    refine ⟨by simp; omega, fun y h => by cases h; exact hc, fun h => (by cases h), fun h0 => ?_⟩
    obtain ⟨b, off, spot⟩ := x
    have hspot : spot = none := by simpa [Addr.add] using World.cell?_spot (hcell 0 (by omega))
    subst hspot
    exact ⟨b, off, rfl, World.block_lt_of_cell? w _ (hc 0 h0), fun i hi => by rw [← hc i hi, Addr.add_lit]⟩

theorem out_shape {w : World} {v : Value} {len : Nat} {zs : List Int} (hz : zs.length = len) (hlen : len ≤ 126)
    (h : w.ownsRow 0 5 1 v (0 + (Lib.uvarint (len + 1)).length + len) ([] ++ (Lib.byteCells (Lib.uvarint (len + 1)) ++ zs.map (Value.int .u8)))) :
    ∃ g cap, v = .slice (some ⟨g, 0, none⟩) (len + 1) cap ∧ len + 1 ≤ cap ∧ w.cell? ⟨g, 0, none⟩ = some (.int .u8 ((len : Int) + 1)) ∧ ∀ j, j < len → w.cell? ⟨g, j + 1, none⟩ = some (.int .u8 (zs.getD j 0)) := by
  have hu : Lib.uvarint (len + 1) = [(len + 1).toUInt8] := Lib.uvarint_small (by omega)
  have hb : Lib.byteCells [(len + 1).toUInt8] = [Value.int .u8 ((len : Int) + 1)] := by
    have := Lib.byteCells_snoc [] (a := len + 1) (by omega)
    simpa [Lib.byteCells] using this
  rw [hu, hb] at h
  obtain ⟨g, cap, hv, hc, hcell⟩ := owned_shape h (by simp; omega)
  simp only [List.length_singleton, Nat.zero_add] at hv hc hcell
  rw [Nat.add_comm 1 len] at hv hc hcell
  refine ⟨g, cap, hv, hc, by rw [hcell 0 (by omega)]; rfl, fun j hj => ?_⟩
  rw [hcell (j + 1) (by omega)]
  simp [List.getD, show j < zs.length by omega]

set_option maxHeartbeats 1000000 in
theorem walk_some (a0 : Option Addr) (len0 cap0 : Nat) (z0 : List Int) (w : World) (w0 : IsRow .u8 w a0 len0 cap0 z0) (hlen : len0 ≤ 126) :
    Calls Yba.prog 4 #[.slice a0 len0 cap0, .bool false] w fun e w' => e = .returned (.bool true) ∧ Below w.heap.size w w' := by
  obtain ⟨hzl, hx, hnone, hshape⟩ := row_facts w0
  obtain ⟨zs, hzs⟩ : ∃ zs, zs = z0.take len0 := ⟨_, rfl⟩
  rw [← hzs] at hzl hx hshape
  clear hzs w0
  have hcp := copy_any a0 len0 cap0 zs w hzl (by omega) hx hnone
  clear hx hnone
  rcases Nat.eq_zero_or_pos len0 with h0 | h0
  rotate_left
  · obtain ⟨b, off, rfl, hbw, hcell⟩ := hshape h0
    clear hshape
    go_enter Yba.func4, Yba.ntmps4
    go_wp2_with fail
    refine hcp.mono ?_
    rintro e w1 ⟨rfl, hg1, hb1⟩
    go_wp2_with fail
    refine (appendValue_some 0 w.heap.size len0 (.slice none 0 0) [] (zs.map (Value.int .u8)) w1 (World.ownsRow_nil _ _ _ _) (by omega) (by omega) hg1 (by simp [hzl]) (ints_oneCell _ _) (by simp [Value.ownBlock])).mono ?_
    rintro e w2 ⟨v2, rfl, hown2, hon2⟩
    obtain ⟨g, cap, hv, hcap, ho0, hoj⟩ := out_shape hzl hlen hown2
    have hb2 : Below w.heap.size w w2 := hb1.grown hon2.grown hb1.size (fun k h => by simp [Value.ownBlock] at h)
    have hcell2 : ∀ i, i < len0 → w2.cell? ⟨b, off + i, none⟩ = some (.int .u8 (zs.getD i 0)) := fun i hi => by
      rw [hb2.cell (p := ⟨b, off + i, none⟩) hbw, hcell i hi]
    clear hown2 hon2 hg1 hcell hzl hb1
    rw [hv]
    clear hv
    go_wp2_with fail
    go_loopw [7] (fun i wr => ∃ k q : Nat, k ≤ len0 ∧ i = .int .i64 k ∧ wr = w2.drewN q) (fun i _ => len0 - (intOf i).toNat)
    case atStart => exact ⟨0, 0, Nat.zero_le _, rfl, rfl⟩
    case round =>
      obtain ⟨k, q, hk, rfl, rfl⟩ := hrel
      by_cases hlt : k < len0
      · have e1 := hcell2 k hlt
        have e2 := hoj k hlt
        have hlt1 : (k : Int) < (len0 : Int) := by omega
        have hlt2 : (k : Int) + 1 < (len0 : Int) + 1 := by omega
        clear hcell2 hoj
        go_wp2
        go_quiet (fail)
        go_wp2
        go_roundw
        case rel => exact ⟨k + 1, q + nq, by omega, by go_num, by first | rfl | (rw [World.drewN_drewN])⟩
        case measure => simp [intOf]; omega
      · clear hcell2 hoj
        go_wp2
        go_ret
        exact ⟨rfl, hb2.trans ⟨rfl, rfl, rfl, Nat.le_refl _, fun _ _ => rfl⟩⟩
  · have h0' : len0 ≤ 0 := by omega
    clear hshape h0
    go_enter Yba.func4, Yba.ntmps4
    go_wp2_with fail
    refine hcp.mono ?_
    rintro e w1 ⟨rfl, hg1, hb1⟩
    go_wp2_with fail
    refine (appendValue_some 0 w.heap.size len0 (.slice none 0 0) [] (zs.map (Value.int .u8)) w1 (World.ownsRow_nil _ _ _ _) (by omega) (by omega) hg1 (by simp [hzl]) (ints_oneCell _ _) (by simp [Value.ownBlock])).mono ?_
    rintro e w2 ⟨v2, rfl, hown2, hon2⟩
    obtain ⟨g, cap, hv, hcap, ho0, _⟩ := out_shape hzl hlen hown2
    have hb2 : Below w.heap.size w w2 := hb1.grown hon2.grown hb1.size (fun k h => by simp [Value.ownBlock] at h)
    clear hown2 hon2 hg1 hzl hb1
    rw [hv]
    clear hv
    go_wp2_with fail
    go_loop [7] (fun i => i = .int .i64 0) (fun _ => 0)
    case atStart => rfl
    case round =>
      subst hrel
      go_wp2
      go_ret
      exact ⟨rfl, hb2⟩

/-! ### STEP 1: THE WALK: the Go text returns true, AND WRITES NOTHING THAT WAS THERE: 'Below w.heap.size w w'' (Derived/Below.lean: '.refl', '.alloc', '.drew', '.setCell' at a new block, '.trans'). Open each 'IsRow' by 'rcases' AHEAD of 'go_enter'; part every test ahead of the walk. -/
theorem walk (a0 : Option Addr) (len0 cap0 : Nat) (z0 : List Int) (a1 : Bool) (w : World) (w0 : IsRow .u8 w a0 len0 cap0 z0) :
    Calls Yba.prog 4 #[.slice a0 len0 cap0, .bool a1] w fun e w' => e = .returned (.bool true) ∧ Below w.heap.size w w' := by
  by_cases hbig : 126 < len0
  · go_enter Yba.func4, Yba.ntmps4
    go_wp2
    go_ret
    exact ⟨rfl, Below.refl _ _⟩
  · cases a1 with
    | true => exact walk_nil a0 len0 cap0 w (by omega)
    | false => exact walk_some a0 len0 cap0 z0 w w0 (by omega)

/-! ### THE ROW's STEP: WRITTEN OUT: LEAVE IT -/
set_option maxRecDepth 100000 in
theorem lifted (os : Os) (started : os.Started) (H : Type) (enc : TypeId × Value → H) :
    ReturnsInHanded {} Yba.checked os 4 .any (Rows.lawS2173CShortSpec.pre6 enc Yba.prog Yba.f4 Rows.lawS2173CShortRow.domain false) (Rows.lawS2173CShortSpec.post enc Yba.prog Yba.f4 false true false false) := by
  refine returnsInHanded_of_change (C := Yba.checked) own started (by kernel_rfl) Yba.func4
    (ChangeSpec.witness6 (enc := enc) (C := Yba.checked) false ⟨#[], #[.slice none 0 0, .bool false], []⟩ 8 (by kernel_rfl) (by kernel_rfl) (by kernel_rfl) (by kernel_rfl)) ?_
  intro W base args ds gs before hval0 hW hcnd _
  have hval : ∀ (j : Nat) t v, Yba.f4.params[j]? = some t → args[j]? = some v → Value.okWide Yba.prog W .any base t v := hval0
  have hW' := hW
  obtain ⟨p, q, hA0, hV, rfl, hfz, hnd⟩ := hW
  have hA : DataW.TrodAll enc Yba.prog W 0 (fun _ => true) true Yba.f4.params.toList args.toList ds p := hA0
  rw [Yba.params4] at hA hval
  obtain ⟨v0, vs0, d0, ds0, p0, q0, hargs, rfl, rfl, h0, r0⟩ := trodAll_cons hA
  obtain ⟨v1, vs1, d1, ds1, p1, q1, rfl, rfl, rfl, h1, r1⟩ := trodAll_cons r0
  obtain ⟨rfl, rfl, rfl⟩ := trodAll_nil r1
  obtain rfl : args = #[v0, v1] := by cases args; simp_all
  obtain ⟨rfl, rfl⟩ := trodVars_none hV
  obtain ⟨a0, len0, cap0, rfl⟩ := okWide_slice Yba.underlying22 (hval 0 22 v0 rfl rfl)
  have k0 := h0
  have lt0 : ∀ x ∈ p0, x.block < W.heap.size := by obtain ⟨m, hm⟩ := k0; exact DataW.trod_lt m _ _ _ hm
  obtain ⟨z0, w0⟩ : ∃ zs, IsRow .u8 W a0 len0 cap0 zs := by
    obtain ⟨fuel, hf⟩ := h0
    rcases open_ints Yba.underlying22 Yba.underlying5 (by kernel_rfl) hf with ⟨hcs, _⟩ | ⟨x, l, c, zs, hcs, _, hl, hm, hz, _, hcell, hwz⟩
    · simp [Value.cells] at hcs
      obtain ⟨rfl, rfl, rfl⟩ := hcs
      exact ⟨[], .inl ⟨rfl, rfl, rfl, rfl⟩⟩
    · simp [Value.cells] at hcs
      obtain ⟨rfl, rfl, rfl⟩ := hcs
      exact ⟨zs, .inr ⟨_, rfl, hl, hm, by simpa using hz, hcell, hwz⟩⟩
  obtain ⟨a1, rfl, rfl, rfl⟩ := open_bool Yba.underlying4 (hval 1 4 v1 rfl rfl) h1
  clear hA0 hval0
  refine (walk a0 len0 cap0 z0 a1 W w0).mono fun e W' ⟨he, bel⟩ => ?_
  subst he
  exact ⟨_, rfl, _, _, _, [], _, [], hW', trodAll_mk1 (shut_bool Yba.underlying4 _), (trodAll_cons_mk (Below.trod laidOut (by kernel_rfl) (of_decide_eq_true (by kernel_rfl)) k0 bel lt0) (trodAll_cons_mk (shut_bool Yba.underlying4 _) trodAll_mk0)), rfl, bel.frame _, fun h => by cases h⟩

theorem over : Rows.lawS2173CShortRow.holds Yba.pinned (OpenSpec.ofChange Rows.lawS2173CShortSpec) :=
  OpenClaim.holds_of_wide 4 Yba.f4 rfl rfl rfl rfl rfl rfl rfl ⟨rfl, rfl, rfl, rfl, rfl⟩ rfl rfl rfl rfl rfl (by kernel_rfl) Yba.func4 (by kernel_rfl)
    (of_decide_eq_true (by kernel_rfl)) (by unfold Func.isWrapper; first | (rw [if_pos (by decide +kernel)]; kernel_rfl) | (rw [if_neg (by decide +kernel)]; exact ⟨rfl, rfl⟩))
    (fun os started H enc _ => lifted os started H enc)

/-- ████ THE STATEMENT ████ -/
theorem proved : Rows.LawS2173CShortSaid := over
#print axioms proved
end Go.Proofs.Ybulkarzc.lawS2173CShort
