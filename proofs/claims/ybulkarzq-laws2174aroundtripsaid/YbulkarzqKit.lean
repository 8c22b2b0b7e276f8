/-
  LAWS OF MY OWN FOR THE WALK OF 'jsonval.LawS2174ARoundTrip': appends onto two slices that the call owns, WITH THE WORD ON WHERE THE NEW SLICE LIES (the same block or a new one), so that the two stay apart.
-/
import Derived.WalkKit
import Derived.ArgAppend
import Derived.Deep.DeepAppendRoom
import Derived.Lib.AppendStr
namespace Go.Proofs.Ybulkarzq
open Go Go.RowKit

theorem grownBy_any {w w' : World} (h : w.grownBy w' none) (row : Option Nat) : w.grownBy w' row :=
  ⟨h.os, h.tape, h.output, h.size, fun k hk _ => h.block k hk (by simp)⟩

theorem ownsRow_base {w : World} {base base' : Nat} {e : TypeId} {size : Nat} {v : Value} {n : Nat} {xs : List Value} (h : w.ownsRow base e size v n xs) (hb : base' ≤ base) : w.ownsRow base' e size v n xs := by
  refine ⟨h.1, ?_⟩
  rcases h.2 with hn | ⟨g, cap, cur, h1, h2, h3⟩
  · exact .inl hn
  · exact .inr ⟨g, cap, cur, h1, Nat.le_trans hb h2, h3⟩

/-- The bytes 'vs' as cells. -/
def cells (vs : List Int) : List Value := vs.map (Value.int .u8)
theorem cells_length (vs : List Int) : (cells vs).length = vs.length := by simp [cells]
theorem cells_append (a b : List Int) : cells (a ++ b) = cells a ++ cells b := by simp [cells]

/-- The slice v is nil or lies at the head of a row of the call's own (a block from B on) and holds the bytes vs. -/
def Owns (B : Nat) (w : World) (v : Value) (vs : List Int) : Prop := w.ownsRow B 5 1 v vs.length (cells vs)

/-- v' lies in v's block or in a new one. -/
def Placed (w : World) (v v' : Value) : Prop := ∀ k, v'.ownBlock = some k → v.ownBlock = some k ∨ w.heap.size ≤ k

/-- The bytes of a string, as numbers. -/
def nums (s : ByteArray) : List Int := s.data.toList.map fun b => (b.toNat : Int)
theorem nums_cells (s : ByteArray) : cells (nums s) = Lib.strCells s := by simp [cells, nums, Lib.strCells]
theorem nums_length (s : ByteArray) : (nums s).length = s.size := by
  rw [nums, List.length_map, Array.length_toList]
  rfl

section
variable {P : Program} (w : World)

theorem run_push (B : Nat) (t ty : TypeId) (i : TypeInfo) (ht : P.underlying t = some (.slice 5)) (hi : P.info? 5 = some i) (hz : i.zero = some (.int .u8 0)) (hsize : i.size = 1) (hby : i.bytes = 1)
    (v : Value) (vs : List Int) (hown : Owns B w v vs) (ad : Addr) (m c : Nat) (ns : List Int) (hm : ns.length = m) (hnews : ∀ j u, (cells ns)[j]? = some u → w.cell? (ad.add j) = some u)
    (hlim : vs.length + m ≤ 140737488355328) (hB : B ≤ w.heap.size) :
    ∃ v' w', (Builtin.append_ #[t, t] ty #[v, .slice (some ad) m c]).run P w = .ok v' w' ∧ Owns B w' v' (vs ++ ns) ∧ w.grownBy w' v.ownBlock ∧ Placed w v v' := by
  have hl : (cells ns).length = m * 1 := by rw [cells_length, hm, Nat.mul_one]
  have h1 : ∀ u ∈ cells ns, u.oneCell' = true := ints_oneCell _ _
  have h63 : vs.length + m ≤ maxLen := by unfold maxLen; omega
  have hfin : ∀ {w' : World} {v' : Value} {b : Nat}, w'.ownsRow b 5 1 v' (vs.length + m) (cells vs ++ cells ns) → B ≤ b → Owns B w' v' (vs ++ ns) := by
    intro w' v' b h hb
    unfold Owns
    rw [List.length_append, cells_append, hm]
    exact ownsRow_base h hb
  unfold Owns at hown
  rcases hown.2 with ⟨rfl, h0⟩ | ⟨g, cap, cur, rfl, hbg, hg, hnc, hcm, hcs, htake⟩
  · obtain rfl : vs = [] := List.eq_nil_of_length_eq_zero h0
    obtain ⟨v', w', hr, h2, h3, _⟩ := run_append_own (P := P) w w.heap.size t ty 5 i (.int .u8 0) 1 1 ht hi hz hsize hby rfl (by decide) (.slice none 0 0) 0 [] (World.ownsRow_nil w _ 5 1) ad m c (cells ns) hl hnews h1 (by simpa using h63) (by simp at hlim; omega) (Nat.le_refl _)
    exact ⟨v', w', hr, hfin (by simpa [cells] using h2) hB, h3, fun k hk => .inr (h2.lt k hk).1⟩
  · by_cases hroom : vs.length + m ≤ cap
    · obtain ⟨w', hr, h2, h3⟩ := run_append_own_spare (P := P) w B t ty 5 i 1 ht hi hsize g vs.length cap (cells vs) hown ad m c (cells ns) hl hnews h1 hroom
      exact ⟨_, w', hr, hfin h2 (Nat.le_refl _), h3, fun k hk => .inl hk⟩
    · have holds : ∀ j u, (cells vs)[j]? = some u → w.cell? ((⟨g, 0, none⟩ : Addr).add j) = some u := hown.cells (g := g) rfl
      obtain ⟨v', w', hr, h2, h3⟩ := run_append_arg_grows (P := P) w t ty 5 i (.int .u8 0) 1 1 ht hi hz hsize hby rfl (by decide) ⟨g, 0, none⟩ vs.length cap (cells vs) hown.1 holds ad m c (cells ns) hl hnews (by omega) h63 (by omega)
      exact ⟨v', w', hr, hfin h2 hB, grownBy_any h3 _, fun k hk => .inr (h2.lt k hk).1⟩

/-- 'v = append(v, ..)', v the call's own. -/
theorem wpList_push {ops : Array Oper} {rest : List Oper} {o : Oper} {a : Act} {Q : Exit → Act → World → Prop} (hgd : o.guard = none) (s x : Operand) (t : TypeId)
    (ho : o.op = .call { callee := .builtin .append, args := #[s, x], argTypes := #[t, t] })
    (B : Nat) (i : TypeInfo) (ht : P.underlying t = some (.slice 5)) (hi : P.info? 5 = some i) (hz : i.zero = some (.int .u8 0)) (hsize : i.size = 1) (hby : i.bytes = 1)
    (v : Value) (vs : List Int) (hs : a.eval s = v) (hown : Owns B w v vs) (ad : Addr) (m c : Nat) (ns : List Int) (hx : a.eval x = .slice (some ad) m c) (hm : ns.length = m) (hnews : ∀ j u, (cells ns)[j]? = some u → w.cell? (ad.add j) = some u)
    (hlim : vs.length + m ≤ 140737488355328) (hB : B ≤ w.heap.size)
    (h : ∀ v' w', Owns B w' v' (vs ++ ns) → w.grownBy w' v.ownBlock → Placed w v v' → wpList P ops Q rest (a.put o.dst v') w') : wpList P ops Q (o :: rest) a w := by
  refine wpList_plain hgd fun K hK => ?_
  obtain ⟨v', w', hr, h2, h3, h4⟩ := run_push (P := P) w B t o.type i ht hi hz hsize hby v vs hown ad m c ns hm hnews hlim hB
  unfold Oper.wp execOp
  simp only [ho, resolve, invoke, builtin, Sem.run_bind, Sem.run_pure, Result.andThen_ok, List.map_toArray, List.map_cons, List.map_nil, hs, hx, hr]
  exact hK _ _ (h v' w' h2 h3 h4)

theorem run_pushStr (B : Nat) (t u ty : TypeId) (i : TypeInfo) (ht : P.underlying t = some (.slice 5)) (hu : P.underlying u = some .string) (hi : P.info? 5 = some i) (hz : i.zero = some (.int .u8 0)) (hsize : i.size = 1) (hby : i.bytes = 1)
    (v : Value) (vs : List Int) (hown : Owns B w v vs) (s : ByteArray) (hlim : vs.length + s.size ≤ 140737488355328) (hB : B ≤ w.heap.size) :
    ∃ v' w', (Builtin.append_ #[t, u] ty #[v, .string s]).run P w = .ok v' w' ∧ Owns B w' v' (vs ++ nums s) ∧ w.grownBy w' v.ownBlock ∧ Placed w v v' := by
  have h63 : vs.length + s.size ≤ maxLen := by unfold maxLen; omega
  have hfin : ∀ {w' : World} {v' : Value} {b : Nat}, w'.ownsRow b 5 1 v' (vs.length + s.size) (cells vs ++ Lib.strCells s) → B ≤ b → Owns B w' v' (vs ++ nums s) := by
    intro w' v' b h hb
    unfold Owns
    rw [List.length_append, cells_append, nums_length, nums_cells]
    exact ownsRow_base h hb
  unfold Owns at hown
  rcases hown.2 with ⟨rfl, h0⟩ | ⟨g, cap, cur, rfl, hbg, hg, hnc, hcm, hcs, htake⟩
  · obtain rfl : vs = [] := List.eq_nil_of_length_eq_zero h0
    obtain ⟨v', w', hr, h2, h3, _⟩ := Lib.run_append_own_string (P := P) w w.heap.size t u ty 5 i ht hu hi hz hsize hby (.slice none 0 0) 0 [] (World.ownsRow_nil w _ 5 1) s (by simpa using h63) (by simpa using hlim) (Nat.le_refl _)
    exact ⟨v', w', hr, hfin (by simpa [cells] using h2) hB, h3, fun k hk => .inr (h2.lt k hk).1⟩
  · obtain ⟨v', w', hr, h2, h3, _⟩ := Lib.run_append_own_string (P := P) w B t u ty 5 i ht hu hi hz hsize hby (.slice (some ⟨g, 0, none⟩) vs.length cap) vs.length (cells vs) hown s h63 hlim hB
    refine ⟨v', w', hr, hfin h2 (Nat.le_refl _), h3, ?_⟩
    have hxl : (cells vs).length = vs.length := cells_length vs
    by_cases hroom : vs.length + s.size ≤ cap
    · have hr2 := Lib.run_append_room_string (P := P) w t u ty 5 i ht hu hi hsize g vs.length cap cur hg s hroom (by omega)
      rw [hr] at hr2
      injection hr2 with e1 _
      rw [e1]
      exact fun k hk => .inl hk
    · have holds : ∀ j u, (cells vs)[j]? = some u → w.cell? ((⟨g, 0, none⟩ : Addr).add j) = some u := hown.cells (g := g) rfl
      have hr2 := Lib.run_append_grow_string (P := P) w t u ty 5 i (.int .u8 0) ht hu hi hz ⟨g, 0, none⟩ vs.length cap (cells vs) (by rw [hsize]; simpa using hxl) holds s (by omega) (by omega) (by rw [hby]; exact growslice_fits (by omega) (by omega))
      rw [hr] at hr2
      injection hr2 with e1 _
      rw [e1]
      intro k hk
      simp [Value.ownBlock] at hk
      exact .inr (by omega)

/-- 'v = append(v, s...)', s a string. -/
theorem wpList_pushStr {ops : Array Oper} {rest : List Oper} {o : Oper} {a : Act} {Q : Exit → Act → World → Prop} (hgd : o.guard = none) (sl x : Operand) (t u : TypeId)
    (ho : o.op = .call { callee := .builtin .append, args := #[sl, x], argTypes := #[t, u] })
    (B : Nat) (i : TypeInfo) (ht : P.underlying t = some (.slice 5)) (hu : P.underlying u = some .string) (hi : P.info? 5 = some i) (hz : i.zero = some (.int .u8 0)) (hsize : i.size = 1) (hby : i.bytes = 1)
    (v : Value) (vs : List Int) (hs : a.eval sl = v) (hown : Owns B w v vs) (s : ByteArray) (hx : a.eval x = .string s) (hlim : vs.length + s.size ≤ 140737488355328) (hB : B ≤ w.heap.size)
    (h : ∀ v' w', Owns B w' v' (vs ++ nums s) → w.grownBy w' v.ownBlock → Placed w v v' → wpList P ops Q rest (a.put o.dst v') w') : wpList P ops Q (o :: rest) a w := by
  refine wpList_plain hgd fun K hK => ?_
  obtain ⟨v', w', hr, h2, h3, h4⟩ := run_pushStr (P := P) w B t u o.type i ht hu hi hz hsize hby v vs hown s hlim hB
  unfold Oper.wp execOp
  simp only [ho, resolve, invoke, builtin, Sem.run_bind, Sem.run_pure, Result.andThen_ok, List.map_toArray, List.map_cons, List.map_nil, hs, hx, hr]
  exact hK _ _ (h v' w' h2 h3 h4)
end

/-- THE STATE OF THE BUILDING: the value's slice and the stack's, apart from each other; below B all is as it was in W. -/
structure Two (W : World) (B : Nat) (w : World) (vv sv : Value) (vs st : List Int) : Prop where
  ownV : Owns B w vv vs
  ownS : Owns B w sv st
  apart : ∀ q, vv.ownBlock = some q → sv.ownBlock ≠ some q
  below : Below B W w
  size : B ≤ w.heap.size

theorem Owns.alloc {B : Nat} {w : World} {v : Value} {vs : List Int} (h : Owns B w v vs) (o : Obj) : Owns B (w.alloc o) v vs := World.ownsRow.alloc h o
theorem Owns.kept {B : Nat} {w w' : World} {v : Value} {vs : List Int} {row : Option Nat} (h : Owns B w v vs) (hg : w.grownBy w' row) (hne : ∀ q, v.ownBlock = some q → row ≠ some q) : Owns B w' v vs := by
  refine World.ownsRow.kept h hg ?_
  cases hv : v.ownBlock with
  | none => exact .inl rfl
  | some q => exact .inr (fun e => hne q hv e.symm)
theorem Owns.lt {B : Nat} {w : World} {v : Value} {vs : List Int} (h : Owns B w v vs) : ∀ k, v.ownBlock = some k → B ≤ k ∧ k < w.heap.size := World.ownsRow.lt h
theorem Owns.nil (B : Nat) (w : World) : Owns B w (.slice none 0 0) [] := World.ownsRow_nil _ _ _ _

theorem Two.alloc {W : World} {B : Nat} {w : World} {vv sv : Value} {vs st : List Int} (h : Two W B w vv sv vs st) (o : Obj) : Two W B (w.alloc o) vv sv vs st :=
  ⟨h.ownV.alloc o, h.ownS.alloc o, h.apart, h.below.alloc h.size o, by have := h.size; simp; omega⟩

theorem Two.pushV {W : World} {B : Nat} {w w' : World} {vv sv v' : Value} {vs st vs' : List Int} (h : Two W B w vv sv vs st) (h1 : Owns B w' v' vs') (hg : w.grownBy w' vv.ownBlock) (hp : Placed w vv v') : Two W B w' v' sv vs' st := by
  refine ⟨h1, h.ownS.kept hg (fun q hq e => h.apart q e hq), fun q hq hs => ?_, h.below.grown hg h.size (fun k hk => (h.ownV.lt k hk).1), Nat.le_trans h.size hg.size⟩
  rcases hp q hq with h2 | h2
  · exact h.apart q h2 hs
  · have := (h.ownS.lt q hs).2; omega

theorem Two.pushS {W : World} {B : Nat} {w w' : World} {vv sv s' : Value} {vs st st' : List Int} (h : Two W B w vv sv vs st) (h1 : Owns B w' s' st') (hg : w.grownBy w' sv.ownBlock) (hp : Placed w sv s') : Two W B w' vv s' vs st' := by
  refine ⟨h.ownV.kept hg (fun q hq e => h.apart q hq e), h1, fun q hq hs => ?_, h.below.grown hg h.size (fun k hk => (h.ownS.lt k hk).1), Nat.le_trans h.size hg.size⟩
  rcases hp q hs with h2 | h2
  · exact h.apart q hq h2
  · have := (h.ownV.lt q hq).2; omega

/-- A slice that is owned, written out. -/
theorem Owns.shape {B : Nat} {w : World} {v : Value} {vs : List Int} (h : Owns B w v vs) : ∃ ao cap, v = .slice ao vs.length cap ∧ vs.length ≤ cap ∧ cap ≤ maxLen ∧ (0 < vs.length → ∃ g, ao = some ⟨g, 0, none⟩ ∧ B ≤ g ∧ g < w.heap.size ∧ ∀ j, j < vs.length → w.cell? ⟨g, j, none⟩ = some (.int .u8 (vs.getD j 0))) := by
  unfold Owns at h
  have h0 := h
  rcases h.2 with ⟨rfl, hn⟩ | ⟨g, cap, cur, rfl, hb, hg, hnc, hcm, _, _⟩
  · exact ⟨none, 0, by rw [hn], by omega, by decide, fun h => by omega⟩
  · refine ⟨_, cap, rfl, hnc, hcm, fun _ => ⟨g, rfl, hb, (Array.getElem?_eq_some_iff.1 hg).1, fun j hj => ?_⟩⟩
    rw [h0.cellAt j (by omega)]
    simp [cells, List.getD, hj]

/-- 'stack = stack[:len(stack)-1]'. -/
theorem Two.pop {W : World} {B : Nat} {w : World} {vv : Value} {ao : Option Addr} {cap : Nat} {vs st : List Int} {c : Int} (h : Two W B w vv (.slice ao (st.length + 1) cap) vs (st ++ [c])) : Two W B w vv (.slice ao st.length cap) vs st := by
  refine ⟨h.ownV, ?_, fun q hq => by cases ao with | none => simp [Value.ownBlock] | some x => exact h.apart q hq, h.below, h.size⟩
  have h1 := h.ownS
  unfold Owns at h1 ⊢
  rcases h1.2 with ⟨e, hn⟩ | ⟨g, cap', cur, e, hb, hg, hnc, hcm, hcs, htake⟩
  · simp at hn
  · simp only [Value.slice.injEq] at e
    obtain ⟨rfl, _, rfl⟩ := e
    refine ⟨by simp [cells], .inr ⟨g, cap, cur, rfl, hb, hg, by simp at hnc; omega, hcm, hcs, ?_⟩⟩
    have e2 := congrArg (List.take st.length) htake
    rw [List.take_take, cells_append] at e2
    simp only [List.length_append, List.length_singleton, Nat.mul_one] at e2
    rw [show min st.length (st.length + 1) = st.length by omega, List.take_append_of_le_length (by rw [cells_length]; exact Nat.le_refl _), List.take_of_length_le (l := cells st) (by rw [cells_length]; exact Nat.le_refl _)] at e2
    rw [Nat.mul_one]
    exact e2

theorem one_new (w : World) (c : Int) : ∀ j u, (cells [c])[j]? = some u → (w.alloc (.cells #[.int .u8 c] 5)).cell? ((⟨w.heap.size, 0, none⟩ : Addr).add j) = some u := by
  intro j u hj
  match j, hj with
  | 0, hj => simp [cells] at hj; subst hj; simp [Addr.add]
  | j + 1, hj => simp [cells] at hj

section
variable {P : Program} {W w : World} {B : Nat} {vv sv : Value} {vs st : List Int}

/-- 'v = append(v, c)'. -/
theorem wpList_pushV (c : Int) (h2 : Two W B w vv sv vs st) (hlim : vs.length ≤ 100000) {ops : Array Oper} {rest : List Oper} {o : Oper} {a : Act} {Q : Exit → Act → World → Prop} (hgd : o.guard = none) (s x : Operand) (t : TypeId)
    (ho : o.op = .call { callee := .builtin .append, args := #[s, x], argTypes := #[t, t] })
    (i : TypeInfo) (ht : P.underlying t = some (.slice 5)) (hi : P.info? 5 = some i) (hz : i.zero = some (.int .u8 0)) (hsize : i.size = 1) (hby : i.bytes = 1)
    (hs : a.eval s = vv) (hx : a.eval x = .slice (some ⟨w.heap.size, 0, none⟩) 1 1)
    (h : ∀ v' w', Two W B w' v' sv (vs ++ [c]) st → wpList P ops Q rest (a.put o.dst v') w') : wpList P ops Q (o :: rest) a (w.alloc (.cells #[.int .u8 c] 5)) := by
  have h3 := h2.alloc (.cells #[.int .u8 c] 5)
  exact wpList_push _ hgd s x t ho B i ht hi hz hsize hby vv vs hs h3.ownV ⟨w.heap.size, 0, none⟩ 1 1 [c] hx rfl (one_new w c) (by omega) h3.size (fun v' w' h4 hg hp => h v' w' (h3.pushV h4 hg hp))

/-- 'stack = append(stack, c)'. -/
theorem wpList_pushS (c : Int) (h2 : Two W B w vv sv vs st) (hlim : st.length ≤ 100000) {ops : Array Oper} {rest : List Oper} {o : Oper} {a : Act} {Q : Exit → Act → World → Prop} (hgd : o.guard = none) (s x : Operand) (t : TypeId)
    (ho : o.op = .call { callee := .builtin .append, args := #[s, x], argTypes := #[t, t] })
    (i : TypeInfo) (ht : P.underlying t = some (.slice 5)) (hi : P.info? 5 = some i) (hz : i.zero = some (.int .u8 0)) (hsize : i.size = 1) (hby : i.bytes = 1)
    (hs : a.eval s = sv) (hx : a.eval x = .slice (some ⟨w.heap.size, 0, none⟩) 1 1)
    (h : ∀ s' w', Two W B w' vv s' vs (st ++ [c]) → wpList P ops Q rest (a.put o.dst s') w') : wpList P ops Q (o :: rest) a (w.alloc (.cells #[.int .u8 c] 5)) := by
  have h3 := h2.alloc (.cells #[.int .u8 c] 5)
  exact wpList_push _ hgd s x t ho B i ht hi hz hsize hby sv st hs h3.ownS ⟨w.heap.size, 0, none⟩ 1 1 [c] hx rfl (one_new w c) (by omega) h3.size (fun v' w' h4 hg hp => h v' w' (h3.pushS h4 hg hp))

/-- 'v = append(v, s...)', s a string. -/
theorem wpList_pushVStr (s : ByteArray) (h2 : Two W B w vv sv vs st) (hlim : vs.length ≤ 100000) (hsl : s.size ≤ 8) {ops : Array Oper} {rest : List Oper} {o : Oper} {a : Act} {Q : Exit → Act → World → Prop} (hgd : o.guard = none) (sl x : Operand) (t u : TypeId)
    (ho : o.op = .call { callee := .builtin .append, args := #[sl, x], argTypes := #[t, u] })
    (i : TypeInfo) (ht : P.underlying t = some (.slice 5)) (hu : P.underlying u = some .string) (hi : P.info? 5 = some i) (hz : i.zero = some (.int .u8 0)) (hsize : i.size = 1) (hby : i.bytes = 1)
    (hs : a.eval sl = vv) (hx : a.eval x = .string s)
    (h : ∀ v' w', Two W B w' v' sv (vs ++ nums s) st → wpList P ops Q rest (a.put o.dst v') w') : wpList P ops Q (o :: rest) a w :=
  wpList_pushStr _ hgd sl x t u ho B i ht hu hi hz hsize hby vv vs hs h2.ownV s hx (by omega) h2.size (fun v' w' h4 hg hp => h v' w' (h2.pushV h4 hg hp))
end

/-- For a loop's measure: the length in a slot. -/
def lenOf : Value → Nat | .slice _ n _ => n | _ => 0

end Go.Proofs.Ybulkarzq
