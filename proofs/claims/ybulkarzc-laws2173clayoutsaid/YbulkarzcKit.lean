/-
  LAWS OF MY OWN FOR THE WALKS OF SEAT b2173a: an append onto a slice that the call owns, WITH THE WORD ON WHERE THE NEW SLICE LIES (the same block or a new one).
-/
import Derived.WalkKit
import Derived.ArgAppend
import Derived.Deep.DeepAppendRoom
import Derived.Lib.Varint
import Derived.Lib.VarintDec
import Derived.Lib.VarintMem
namespace Go.Proofs.Ybulkarzc
open Go Go.RowKit

theorem grownBy_any {w w' : World} (h : w.grownBy w' none) (row : Option Nat) : w.grownBy w' row :=
  ⟨h.os, h.tape, h.output, h.size, fun k hk _ => h.block k hk (by simp)⟩

theorem ownsRow_base {w : World} {base base' : Nat} {e : TypeId} {size : Nat} {v : Value} {n : Nat} {xs : List Value} (h : w.ownsRow base e size v n xs) (hb : base' ≤ base) : w.ownsRow base' e size v n xs := by
  refine ⟨h.1, ?_⟩
  rcases h.2 with hn | ⟨g, cap, cur, h1, h2, h3⟩
  · exact .inl hn
  · exact .inr ⟨g, cap, cur, h1, Nat.le_trans hb h2, h3⟩

section
variable {P : Program} (w : World)

theorem run_append_own2 (base : Nat) (t ty e : TypeId) (i : TypeInfo) (z : Value) (size bytes : Nat) (ht : P.underlying t = some (.slice e)) (hi : P.info? e = some i) (hz : i.zero = some z)
    (hsize : i.size = size) (hby : i.bytes = bytes) (hzs : z.cells.size = size) (hsz : 0 < size)
    (v : Value) (n : Nat) (xs : List Value) (hown : w.ownsRow base e size v n xs)
    (a : Addr) (m c : Nat) (news : List Value) (hl : news.length = m * size) (hnews : ∀ j u, news[j]? = some u → w.cell? (a.add j) = some u) (h1 : ∀ u ∈ news, u.oneCell' = true)
    (h63 : n + m ≤ maxLen) (hbytes : (n + m) * bytes ≤ 140737488355328) (hbase : base ≤ w.heap.size) :
    ∃ v' w', (Builtin.append_ #[t, t] ty #[v, .slice (some a) m c]).run P w = .ok v' w' ∧ w'.ownsRow base e size v' (n + m) (xs ++ news) ∧ w.grownBy w' v.ownBlock ∧
      (∀ k, v'.ownBlock = some k → v.ownBlock = some k ∨ w.heap.size ≤ k) := by
  rcases hown.2 with ⟨rfl, rfl⟩ | ⟨g, cap, cur, rfl, hbg, hg, hnc, hcm, hcs, htake⟩
  · have hx : xs = [] := List.eq_nil_of_length_eq_zero (by simpa using hown.1)
    subst hx
    obtain ⟨v', w', hr, h2, h3, _⟩ := run_append_own (P := P) w w.heap.size t ty e i z size bytes ht hi hz hsize hby hzs hsz (.slice none 0 0) 0 [] (World.ownsRow_nil w _ e size) a m c news hl hnews h1 h63 hbytes (Nat.le_refl _)
    exact ⟨v', w', hr, ownsRow_base h2 hbase, h3, fun k hk => .inr (h2.lt k hk).1⟩
  · by_cases hroom : n + m ≤ cap
    · obtain ⟨w', hr, h2, h3⟩ := run_append_own_spare (P := P) w base t ty e i size ht hi hsize g n cap xs hown a m c news hl hnews h1 hroom
      exact ⟨_, w', hr, h2, h3, fun k hk => .inl hk⟩
    · have holds : ∀ j u, xs[j]? = some u → w.cell? ((⟨g, 0, none⟩ : Addr).add j) = some u := hown.cells (g := g) rfl
      obtain ⟨v', w', hr, h2, h3⟩ := run_append_arg_grows (P := P) w t ty e i z size bytes ht hi hz hsize hby hzs hsz ⟨g, 0, none⟩ n cap xs hown.1 holds a m c news hl hnews (by omega) h63 hbytes
      exact ⟨v', w', hr, ownsRow_base h2 hbase, grownBy_any h3 _, fun k hk => .inr (h2.lt k hk).1⟩

theorem wpList_append_own2 {ops : Array Oper} {rest : List Oper} {o : Oper} {a : Act} {Q : Exit → Act → World → Prop} (hgd : o.guard = none) (s x : Operand) (t : TypeId)
    (ho : o.op = .call { callee := .builtin .append, args := #[s, x], argTypes := #[t, t] })
    (base : Nat) (e : TypeId) (i : TypeInfo) (z : Value) (size bytes : Nat) (ht : P.underlying t = some (.slice e)) (hi : P.info? e = some i) (hz : i.zero = some z)
    (hsize : i.size = size) (hby : i.bytes = bytes) (hzs : z.cells.size = size) (hsz : 0 < size)
    (v : Value) (n : Nat) (xs : List Value) (hs : a.eval s = v) (hown : w.ownsRow base e size v n xs)
    (ad : Addr) (m c : Nat) (news : List Value) (hx : a.eval x = .slice (some ad) m c) (hl : news.length = m * size) (hnews : ∀ j u, news[j]? = some u → w.cell? (ad.add j) = some u) (h1 : ∀ u ∈ news, u.oneCell' = true)
    (h63 : n + m ≤ maxLen) (hbytes : (n + m) * bytes ≤ 140737488355328) (hbase : base ≤ w.heap.size)
    (h : ∀ v' w', w'.ownsRow base e size v' (n + m) (xs ++ news) → w.grownBy w' v.ownBlock → (∀ k, v'.ownBlock = some k → v.ownBlock = some k ∨ w.heap.size ≤ k) → wpList P ops Q rest (a.put o.dst v') w') : wpList P ops Q (o :: rest) a w := by
  refine wpList_plain hgd fun K hK => ?_
  obtain ⟨v', w', hr, h2, h3, h4⟩ := run_append_own2 (P := P) w base t o.type e i z size bytes ht hi hz hsize hby hzs hsz v n xs hown ad m c news hl hnews h1 h63 hbytes hbase
  unfold Oper.wp execOp
  simp only [ho, resolve, invoke, builtin, Sem.run_bind, Sem.run_pure, Result.andThen_ok, List.map_toArray, List.map_cons, List.map_nil, hs, hx, hr]
  exact hK _ _ (h v' w' h2 h3 h4)
end

/-- 'w1' is 'w' with new blocks and with writes to the block of 'sv' alone; the value 'v' lies there or in a block that is new since 'w'. -/
structure Onw (w : World) (sv : Value) (w1 : World) (v : Value) : Prop where
  grown : w.grownBy w1 sv.ownBlock
  place : ∀ k, v.ownBlock = some k → sv.ownBlock = some k ∨ w.heap.size ≤ k

theorem Onw.start (w : World) (sv : Value) : Onw w sv w sv := ⟨World.grownBy.refl _ _, fun _ h => .inl h⟩

theorem Onw.alloc {w w1 : World} {sv v : Value} (h : Onw w sv w1 v) (o : Obj) : Onw w sv (w1.alloc o) v :=
  ⟨⟨h.grown.os, h.grown.tape, h.grown.output, by have := h.grown.size; simp; omega, fun k hk hn => (Below.heap_alloc w1 o k (Nat.lt_of_lt_of_le hk h.grown.size)).trans (h.grown.block k hk hn)⟩, h.place⟩

theorem Onw.step {w w1 w2 : World} {sv v v' : Value} (h : Onw w sv w1 v) (hg : w1.grownBy w2 v.ownBlock) (hp : ∀ k, v'.ownBlock = some k → v.ownBlock = some k ∨ w1.heap.size ≤ k) : Onw w sv w2 v' := by
  refine ⟨⟨hg.os.trans h.grown.os, hg.tape.trans h.grown.tape, hg.output.trans h.grown.output, Nat.le_trans h.grown.size hg.size, fun k hk hn => ?_⟩, fun k hk => ?_⟩
  · refine (hg.block k (Nat.lt_of_lt_of_le hk h.grown.size) (fun e => ?_)).trans (h.grown.block k hk hn)
    rcases h.place k e.symm with h1 | h1
    · exact hn h1.symm
    · omega
  · rcases hp k hk with h1 | h1
    · exact h.place k h1
    · exact .inr (Nat.le_trans h.grown.size h1)

end Go.Proofs.Ybulkarzc
