/-
  THE WALK OF 'jsonval.LawS2174ARoundTrip' (function 3). Four cuts: behind the three arrays, around the switch, behind the container's first bracket, around the first loop.
-/
import Derived.Test.YbulkarzqValue2
import Derived.Test.YbulkarzqBuild
import Derived.Deep.DeepCutAuto
import Derived.Deep.CutBlock
namespace Go.Proofs.Ybulkarzq
open Go.RowKit
theorem info5 : (Yba.prog.info? 5).map (fun i => (i.zero, i.size, i.bytes)) = some (some (.int .u8 0), 1, 1) := by kernel_rfl

/-- The three arrays of the text, laid in the call's first three blocks. -/
structure Arr (w wx : World) : Prop where
  below : Below w.heap.size w wx
  size : wx.heap.size = w.heap.size + 1 + 1 + 1
  str : ∀ i, i < 6 → wx.cell? ⟨w.heap.size, i, none⟩ = some (.string (strB i))
  scal : ∀ i, i < 6 → wx.cell? ⟨w.heap.size + 1, i, none⟩ = some (.string (scalB i))
  del : ∀ i, i < 7 → wx.cell? ⟨w.heap.size + 1 + 1, i, none⟩ = some (.int .u8 (delB i))

def arrStr : Obj := .cells #[.string ⟨#[34, 120, 34]⟩, .string ⟨#[34, 92, 34, 34]⟩, .string ⟨#[34, 92, 92, 34]⟩, .string ⟨#[34, 97, 93, 125, 44, 91, 34]⟩, .string ⟨#[34, 123, 91, 92, 34, 92, 92, 34]⟩, .string ⟨#[34, 34]⟩] 23
def arrScal : Obj := .cells #[.string ⟨#[116, 114, 117, 101]⟩, .string ⟨#[102, 97, 108, 115, 101]⟩, .string ⟨#[110, 117, 108, 108]⟩, .string ⟨#[45, 49, 46, 53, 101, 51]⟩, .string ⟨#[48]⟩, .string ⟨#[49, 50]⟩] 23
def arrDel : Obj := .cells #[.int .u8 44, .int .u8 125, .int .u8 93, .int .u8 32, .int .u8 9, .int .u8 10, .int .u8 13] 24

theorem cell_new (w : World) (cs : Array Value) (t : TypeId) (i : Nat) : (w.alloc (.cells cs t)).cell? ⟨w.heap.size, i, none⟩ = cs[i]? := by
  rw [cell_of_row _ w.heap.size i cs t (0, 0) (heap_alloc_new w _)]

theorem cell_old (w : World) (o : Obj) (a : Addr) (h : a.block < w.heap.size) : (w.alloc o).cell? a = w.cell? a :=
  World.cell?_of_block (Below.heap_alloc w o a.block h)

theorem arr_made (w : World) : Arr w (((w.alloc arrStr).alloc arrScal).alloc arrDel) := by
  have s1 : (w.alloc arrStr).heap.size = w.heap.size + 1 := by simp
  have s2 : ((w.alloc arrStr).alloc arrScal).heap.size = w.heap.size + 1 + 1 := by simp
  refine ⟨(((Below.refl _ _).alloc (Nat.le_refl _) _).alloc (by omega) _).alloc (by omega) _, by simp, fun i hi => ?_, fun i hi => ?_, fun i hi => ?_⟩
  · rw [cell_old _ _ _ (by show w.heap.size < _; omega), cell_old _ _ _ (by show w.heap.size < _; omega), arrStr, cell_new]
    match i, hi with
    | 0, _ => rfl
    | 1, _ => rfl
    | 2, _ => rfl
    | 3, _ => rfl
    | 4, _ => rfl
    | 5, _ => rfl
  · rw [cell_old _ _ _ (by show w.heap.size + 1 < _; omega), ← s1, arrScal, cell_new]
    match i, hi with
    | 0, _ => rfl
    | 1, _ => rfl
    | 2, _ => rfl
    | 3, _ => rfl
    | 4, _ => rfl
    | 5, _ => rfl
  · rw [← s2, arrDel, cell_new]
    match i, hi with
    | 0, _ => rfl
    | 1, _ => rfl
    | 2, _ => rfl
    | 3, _ => rfl
    | 4, _ => rfl
    | 5, _ => rfl
    | 6, _ => rfl

theorem cells_at (l : List Int) (i : Nat) (h : i < l.length) : (cells l)[i]? = some (.int .u8 (l.getD i 0)) := by
  simp [cells, List.getD, h]

theorem first_str {B q : Nat} {W3 w1 : World} {v1 : Value} {s : ByteArray} (hs : s = strB q) (hsl : s.size ≤ 8) (hown : Owns B w1 v1 ([] ++ nums s)) (hb : Below B W3 w1) :
    ∃ vs, Owns B w1 v1 vs ∧ Below B W3 w1 ∧ vs.length ≤ 20000 ∧ 0 < vs.length ∧ ∀ i r, vlen (vs ++ delB i :: r) = vs.length := by
  rw [List.nil_append] at hown
  refine ⟨nums s, hown, hb, by rw [nums_length]; omega, ?_, fun i r => by rw [hs]; exact vlen_strB q _⟩
  rw [hs]
  rcases str_cases q with h | h | h | h | h | h <;> rw [h] <;> decide

theorem first_scal {B q : Nat} {W3 w1 : World} {v1 : Value} {s : ByteArray} (hs : s = scalB q) (hsl : s.size ≤ 8) (hown : Owns B w1 v1 ([] ++ nums s)) (hb : Below B W3 w1) :
    ∃ vs, Owns B w1 v1 vs ∧ Below B W3 w1 ∧ vs.length ≤ 20000 ∧ 0 < vs.length ∧ ∀ i r, vlen (vs ++ delB i :: r) = vs.length := by
  rw [List.nil_append] at hown
  refine ⟨nums s, hown, hb, by rw [nums_length]; omega, ?_, fun i r => by rw [hs]; exact vlen_scalB q _ (delB_delim i) _⟩
  rw [hs]
  rcases scal_cases q with h | h | h | h | h | h <;> rw [h] <;> decide

theorem start_rel {W w : World} {B : Nat} {vv sv : Value} {c c' : Int} (h : Two W B w vv sv [c] [c']) (hc : isOpen c = true) (hc' : isClose c' = true) :
    ∃ vs st ao cp, sv = .slice ao st.length cp ∧ Two W B w vv sv vs st ∧ Good vs st ∧ vs.length = 1 ∧ st.length = 1 := by
  obtain ⟨ao, cp, hs, _⟩ := h.ownS.shape
  exact ⟨[c], [c'], ao, cp, hs, h, good_start hc hc', rfl, rfl⟩

theorem nil_or_last (l : List Int) : l = [] ∨ ∃ l0 c, l = l0 ++ [c] := by
  rcases List.eq_nil_or_concat l with h | ⟨l0, c, h⟩
  · exact .inl h
  · exact .inr ⟨l0, c, by rw [h, List.concat_eq_append]⟩

theorem end_rel {W w : World} {B : Nat} {vv sv : Value} {vs : List Int} (h : Two W B w vv sv vs []) (hG : Good vs []) (hle : vs.length + ([] : List Int).length ≤ 15000) :
    ∃ vs, Owns B w vv vs ∧ Below B W w ∧ vs.length ≤ 20000 ∧ 0 < vs.length ∧ ∀ i r, vlen (vs ++ delB i :: r) = vs.length := by
  refine ⟨vs, h.ownV, h.below, by simp at hle; omega, ?_, fun i r => good_end hG _⟩
  obtain ⟨c, t, rfl, _⟩ := hG.head
  simp

theorem pop_facts {W w : World} {B cp : Nat} {vv : Value} {ao : Option Addr} {vs st0 : List Int} {c : Int} (h : Two W B w vv (.slice ao (st0 ++ [c]).length cp) vs (st0 ++ [c])) :
    ∃ g, ao = some ⟨g, 0, none⟩ ∧ w.cell? ⟨g, st0.length, none⟩ = some (.int .u8 c) ∧ st0.length + 1 ≤ cp := by
  obtain ⟨ao', cp', hs, hcp, _, hsh⟩ := h.ownS.shape
  cases hs
  obtain ⟨g, hg, _, _, hcell⟩ := hsh (by simp)
  refine ⟨g, hg, ?_, by simpa using hcp⟩
  rw [hcell st0.length (by simp)]
  simp [List.getD]

theorem ops_cell {w W3 wr : World} {vv sv : Value} {vs st : List Int} {a : Addr} {v : Value} (harr : Arr w W3) (hT : Two W3 (w.heap.size + 3) wr vv sv vs st) (h : w.cell? a = some v) : wr.cell? a = some v := by
  have hlt := World.block_lt_of_cell? w _ h
  rw [hT.below.cell (by omega), harr.below.cell hlt, h]

theorem str_cell {w W3 wr : World} {vv sv : Value} {vs st : List Int} {q : Nat} (harr : Arr w W3) (hT : Two W3 (w.heap.size + 3) wr vv sv vs st) (hq : q < 6) : wr.cell? ⟨w.heap.size, q, none⟩ = some (.string (strB q)) := by
  rw [hT.below.cell (p := ⟨w.heap.size, q, none⟩) (by show w.heap.size < _; omega), harr.str q hq]

theorem scal_cell {w W3 wr : World} {vv sv : Value} {vs st : List Int} {q : Nat} (harr : Arr w W3) (hT : Two W3 (w.heap.size + 3) wr vv sv vs st) (hq : q < 6) : wr.cell? ⟨w.heap.size + 1, q, none⟩ = some (.string (scalB q)) := by
  rw [hT.below.cell (p := ⟨w.heap.size + 1, q, none⟩) (by show w.heap.size + 1 < _; omega), harr.scal q hq]

theorem one_new2 (w : World) (v : Value) (t : TypeId) : ∀ j u, [v][j]? = some u → (w.alloc (.cells #[v] t)).cell? ((⟨w.heap.size, 0, none⟩ : Addr).add j) = some u := by
  intro j u hj
  match j, hj with
  | 0, hj => simp at hj; subst hj; simp [Addr.add]

theorem tail_facts {w W3 wc : World} {vv : Value} {vs : List Int} (harr : Arr w W3) (hown : Owns (w.heap.size + 3) wc vv vs) (hbel : Below (w.heap.size + 3) W3 wc) (hpos : 0 < vs.length) :
    ∃ g cap, vv = .slice (some ⟨g, 0, none⟩) vs.length cap ∧ vs.length ≤ cap ∧ (∀ j u, (cells vs)[j]? = some u → wc.cell? ((⟨g, 0, none⟩ : Addr).add j) = some u) ∧ (∀ i, i < 7 → wc.cell? ⟨w.heap.size + 1 + 1, i, none⟩ = some (.int .u8 (delB i))) ∧ Below w.heap.size w wc ∧ w.heap.size + 3 ≤ wc.heap.size := by
  obtain ⟨ao, cap, hv, hcap, _, hsh⟩ := hown.shape
  obtain ⟨g, rfl, hBg, hgw, hcell⟩ := hsh hpos
  refine ⟨g, cap, hv, hcap, fun j u hj => ?_, fun i hi => ?_, harr.below.trans (hbel.mono (by omega)), by have := hbel.size; have := harr.size; omega⟩
  · have hjl : j < vs.length := by have := (List.getElem?_eq_some_iff.1 hj).1; simpa [cells_length] using this
    rw [Addr.add_lit, Nat.zero_add, hcell j hjl, ← hj]
    simp [cells, List.getD, hjl]
  · rw [hbel.cell (p := ⟨w.heap.size + 1 + 1, i, none⟩) (by show w.heap.size + 1 + 1 < _; omega), harr.del i hi]

set_option maxHeartbeats 8000000 in
set_option maxRecDepth 100000 in
theorem rt_all (a0 : Int) (a1 : Option Addr) (len1 cap1 : Nat) (a2 : Int) (a3 : Option Addr) (len3 cap3 : Nat) (w : World) (h0 : 0 ≤ a0) (h0' : a0 ≤ 255) (h2 : 0 ≤ a2) (h2' : a2 ≤ 255) (hs1 : len1 ≤ 1024) (hs3 : len3 ≤ 1024)
    (zs : List Int) (hops : 0 < len1 → ∃ b off, a1 = some ⟨b, off, none⟩ ∧ ∀ i, i < len1 → w.cell? ⟨b, off + i, none⟩ = some (.int .u8 (zs.getD i 0))) (hzb : ∀ i, 0 ≤ zs.getD i 0 ∧ zs.getD i 0 ≤ 255)
    (tl : List Int) (htl : tl.length = len3) (hn3 : a3 = none → len3 = 0 ∧ cap3 = 0) (hc3 : ∀ x, a3 = some x → ∀ i, i < len3 → w.cell? (x.add i) = some (.int .u8 (tl.getD i 0))) :
    Calls Yba.prog 3 #[.int .u8 a0, .slice a1 len1 cap1, .int .u8 a2, .slice a3 len3 cap3] w fun e w' => e = .returned (.bool true) ∧ Below w.heap.size w w' := by
  obtain ⟨i0, hi, hz0, hz1, hz2⟩ := info_parts info5
  go_enter Yba.func3, Yba.ntmps3
  go_upto_region 6 with fail
  go_cut [12] from 17 (fun s12 wx => s12 = .slice none 0 0 ∧ Arr w wx)
  case first =>
    go_wp2_with fail
    go_meet
    case rel => exact ⟨rfl, arr_made w⟩
  case rest =>
    obtain ⟨rfl, harr⟩ := hcut
    go_upto_block 0 with fail
    obtain ⟨W3, hW3⟩ : ∃ W3 : World, wc = W3 := ⟨_, rfl⟩
    rw [hW3] at harr ⊢
    clear hW3 wc
    go_cut [12] from 17 (fun vv wx => ∃ vs, Owns (w.heap.size + 3) wx vv vs ∧ Below (w.heap.size + 3) W3 wx ∧ vs.length ≤ 20000 ∧ 0 < vs.length ∧ ∀ i r, vlen (vs ++ delB i :: r) = vs.length)
    case first =>
      have hsz3 : w.heap.size + 3 ≤ W3.heap.size := by have := harr.size; omega
      rcases (show a0 % 4 = 0 ∨ a0 % 4 = 1 ∨ 2 ≤ a0 % 4 by omega) with hm | hm | hm
      · obtain ⟨q, hq⟩ : ∃ q : Nat, a0 / 4 % 6 = (q : Int) := ⟨(a0 / 4 % 6).toNat, by omega⟩
        have hq6 : q < 6 := by omega
        obtain ⟨s, hs⟩ : ∃ s, s = strB q := ⟨_, rfl⟩
        have hcs : W3.cell? ⟨w.heap.size, q, none⟩ = some (.string s) := by rw [hs]; exact harr.str q hq6
        have hsl : s.size ≤ 8 := by rw [hs]; exact strB_size q
        have HS : Hid (s = strB q) := hs
        clear hs
        go_wp2_with (at_builtin; refine wpList_pushStr _ rfl (.tmp 133) (.tmp 139) 22 9 rfl (w.heap.size + 3) i0 Yba.underlying22 Yba.underlying9 hi hz0 hz1 hz2 _ [] rfl (Owns.nil _ _) s rfl ?l1 ?l2 ?_)
        case l1 => simp; omega
        case l2 => exact hsz3
        intro v1 w1 hown1 hgrow1 _
        have hb1 : Below (w.heap.size + 3) W3 w1 := (Below.refl _ _).grown hgrow1 hsz3 (fun k h => by simp [Value.ownBlock] at h)
        clear hgrow1
        go_wp2_with fail
        go_meet
        case rel => exact first_str HS.out hsl hown1 hb1
      · obtain ⟨q, hq⟩ : ∃ q : Nat, a0 / 4 % 6 = (q : Int) := ⟨(a0 / 4 % 6).toNat, by omega⟩
        have hq6 : q < 6 := by omega
        obtain ⟨s, hs⟩ : ∃ s, s = scalB q := ⟨_, rfl⟩
        have hcs : W3.cell? ⟨w.heap.size + 1, q, none⟩ = some (.string s) := by rw [hs]; exact harr.scal q hq6
        have hsl : s.size ≤ 8 := by rw [hs]; exact scalB_size q
        have HS : Hid (s = scalB q) := hs
        clear hs
        go_wp2_with (at_builtin; refine wpList_pushStr _ rfl (.tmp 143) (.tmp 149) 22 9 rfl (w.heap.size + 3) i0 Yba.underlying22 Yba.underlying9 hi hz0 hz1 hz2 _ [] rfl (Owns.nil _ _) s rfl ?l1 ?l2 ?_)
        case l1 => simp; omega
        case l2 => exact hsz3
        intro v1 w1 hown1 hgrow1 _
        have hb1 : Below (w.heap.size + 3) W3 w1 := (Below.refl _ _).grown hgrow1 hsz3 (fun k h => by simp [Value.ownBlock] at h)
        clear hgrow1
        go_wp2_with fail
        go_meet
        case rel => exact first_scal HS.out hsl hown1 hb1
      · have hT0 : Two W3 (w.heap.size + 3) W3 (.slice none 0 0) (.slice none 0 0) [] [] := ⟨Owns.nil _ _, Owns.nil _ _, fun q h => by simp [Value.ownBlock] at h, Below.refl _ _, hsz3⟩
        go_upto_if 33 with fail
        go_cut [12, 13] from 17 (fun vv sv wx => ∃ vs st ao cp, sv = .slice ao st.length cp ∧ Two W3 (w.heap.size + 3) wx vv sv vs st ∧ Good vs st ∧ vs.length = 1 ∧ st.length = 1)
        case first =>
          by_cases h3 : a0 % 4 = 3
          · go_wp2_with (at_builtin; refine wpList_pushV 123 hT0 (by decide) rfl (.tmp 34) (.tmp 35) 22 rfl i0 Yba.underlying22 hi hz0 hz1 hz2 rfl rfl ?_)
            intro v1 w1 h1
            go_wp2_with (at_builtin; refine wpList_pushS 125 h1 (by decide) rfl (.tmp 37) (.tmp 38) 22 rfl i0 Yba.underlying22 hi hz0 hz1 hz2 rfl rfl ?_)
            intro s1 w2 h2
            go_wp2_with fail
            go_meet
            case rel => exact start_rel h2 (by decide) (by decide)
          · have h3' : (a0 % 4 == 3) = false := by simpa using h3
            go_wp2_with (at_builtin; refine wpList_pushV 91 hT0 (by decide) rfl (.tmp 40) (.tmp 41) 22 rfl i0 Yba.underlying22 hi hz0 hz1 hz2 rfl rfl ?_)
            intro v1 w1 h1
            go_wp2_with (at_builtin; refine wpList_pushS 93 h1 (by decide) rfl (.tmp 43) (.tmp 44) 22 rfl i0 Yba.underlying22 hi hz0 hz1 hz2 rfl rfl ?_)
            intro s1 w2 h2
            go_wp2_with fail
            go_meet
            case rel => exact start_rel h2 (by decide) (by decide)
        case rest =>
          obtain ⟨vs, st, ao, cp, rfl, hT, hG, hv1, hs1⟩ := hcut
          go_upto_block 1 with fail
          go_cut [12, 13] from 17 (fun vv sv wx => ∃ vs st ao cp, sv = .slice ao st.length cp ∧ Two W3 (w.heap.size + 3) wx vv sv vs st ∧ Good vs st ∧ vs.length + st.length ≤ 15000)
          case first =>
            go_wp2_with fail
            go_loopw [12, 13, 48] (fun vv sv i wr => ∃ (k : Nat) (vs st : List Int) (ao : Option Addr) (cp : Nat), k ≤ len1 ∧ i = .int .i64 k ∧ sv = .slice ao st.length cp ∧ Two W3 (w.heap.size + 3) wr vv sv vs st ∧ Good vs st ∧ vs.length ≤ 8 * k + 8 ∧ st.length ≤ k + 1) (fun _ _ i _ => len1 - (intOf i).toNat)
            case atStart => exact ⟨0, vs, st, ao, cp, by omega, rfl, rfl, hT, hG, by omega, by omega⟩
            case round =>
              clear hT hG hv1 hs1 hT0
              obtain ⟨k, vs, st, ao, cp, hk, rfl, rfl, hT, hG, hvl, hsl⟩ := hrel
              by_cases hlt : k < len1
              · obtain ⟨b, off, ha1, hcell⟩ := hops (by omega)
                have hc : wr.cell? ⟨b, off + k, none⟩ = some (.int .u8 (zs.getD k 0)) := ops_cell harr hT (hcell k hlt)
                obtain ⟨z, hz⟩ : ∃ z, z = zs.getD k 0 := ⟨_, rfl⟩
                have hb1 : 0 ≤ z := by rw [hz]; exact (hzb k).1
                have hb2 : z ≤ 255 := by rw [hz]; exact (hzb k).2
                rw [← hz] at hc
                have HG : Hid (Good vs st) := hG
                subst ha1
                clear hz hcell hops hzb hc3 hn3 htl hG
                by_cases hst : st = []
                · subst hst
                  go_wp2_with fail
                  go_meet
                  case rel => exact ⟨vs, [], ao, cp, rfl, hT, HG.out, by simp; omega⟩
                · have hst1 : 1 ≤ st.length := by cases st with | nil => exact absurd rfl hst | cons x r => simp
                  have HST : Hid (st ≠ []) := hst
                  have hne : ((st.length : Int) == 0) = false := by simp; omega
                  have hvb : vs.length ≤ 100000 := by omega
                  have hsb : st.length ≤ 100000 := by omega
                  clear hst
                  rcases (show z % 6 = 0 ∨ z % 6 = 1 ∨ z % 6 = 2 ∨ z % 6 = 3 ∨ z % 6 = 4 ∨ z % 6 = 5 by omega) with hm | hm | hm | hm | hm | hm
                  · go_wp2_with (at_builtin; refine wpList_pushV 91 hT hvb rfl (.tmp 68) (.tmp 69) 22 rfl i0 Yba.underlying22 hi hz0 hz1 hz2 rfl rfl ?_)
                    intro v1 w1 h1
                    clear hT hc
                    go_wp2_with (at_builtin; refine wpList_pushS 93 h1 hsb rfl (.tmp 71) (.tmp 72) 22 rfl i0 Yba.underlying22 hi hz0 hz1 hz2 rfl rfl ?_)
                    intro s1 w2 h2
                    obtain ⟨ao', cp', hs1, _⟩ := h2.ownS.shape
                    have HS1 : Hid _ := hs1
                    clear h1 hs1
                    go_wp2_with fail
                    go_roundw
                    case rel => exact ⟨k + 1, vs ++ [91], st ++ [93], ao', cp', by omega, by go_num, HS1.out, h2, good_open HG.out HST.out (by decide) (by decide), by simp; omega, by simp; omega⟩
                    case measure => simp [intOf]; omega
                  · go_wp2_with (at_builtin; refine wpList_pushV 123 hT hvb rfl (.tmp 76) (.tmp 77) 22 rfl i0 Yba.underlying22 hi hz0 hz1 hz2 rfl rfl ?_)
                    intro v1 w1 h1
                    clear hT hc
                    go_wp2_with (at_builtin; refine wpList_pushS 125 h1 hsb rfl (.tmp 79) (.tmp 80) 22 rfl i0 Yba.underlying22 hi hz0 hz1 hz2 rfl rfl ?_)
                    intro s1 w2 h2
                    obtain ⟨ao', cp', hs1, _⟩ := h2.ownS.shape
                    have HS1 : Hid _ := hs1
                    clear h1 hs1
                    go_wp2_with fail
                    go_roundw
                    case rel => exact ⟨k + 1, vs ++ [123], st ++ [125], ao', cp', by omega, by go_num, HS1.out, h2, good_open HG.out HST.out (by decide) (by decide), by simp; omega, by simp; omega⟩
                    case measure => simp [intOf]; omega
                  · rcases nil_or_last st with rfl | ⟨st0, c, rfl⟩
                    · exact absurd rfl HST.out
                    · obtain ⟨g, rfl, hcl, hcp⟩ := pop_facts hT
                      have HG2 : Hid (Good (vs ++ [c]) st0) := good_close HG.out
                      have HL1 : Hid ((vs ++ [c]).length ≤ 8 * (k + 1) + 8) := by show _ ≤ _; simp; omega
                      have HL2 : Hid (st0.length ≤ k + 1 + 1) := by show _ ≤ _; simp at hsl; omega
                      obtain ⟨m, hmm⟩ : ∃ m, m = st0.length := ⟨_, rfl⟩
                      have hmb : m ≤ 15000 := by simp at hsl; omega
                      rw [← hmm] at hcl hcp
                      have eL : (st0 ++ [c]).length = m + 1 := by simp [hmm]
                      rw [eL]
                      have HM : Hid (m = st0.length) := hmm
                      have hne2 : (((m + 1 : Nat) : Int) == 0) = false := by simp; omega
                      clear hmm hst1 HST hne hsb eL hsl HG
                      go_wp2_with (at_builtin; refine wpList_pushV c hT hvb rfl (.tmp 84) (.tmp 91) 22 rfl i0 Yba.underlying22 hi hz0 hz1 hz2 rfl rfl ?_)
                      intro v1 w1 h1
                      have h2 := h1.pop
                      clear h1 hT hcl hc
                      go_wp2_with fail
                      go_roundw
                      case rel => exact ⟨k + 1, vs ++ [c], st0, some ⟨g, 0, none⟩, cp, by omega, by go_num, by rw [HM.out], by rw [HM.out]; exact h2, HG2.out, HL1.out, HL2.out⟩
                      case measure => simp [intOf]; omega
                  · obtain ⟨q, hq⟩ : ∃ q : Nat, z / 6 % 6 = (q : Int) := ⟨(z / 6 % 6).toNat, by omega⟩
                    have hq6 : q < 6 := by omega
                    obtain ⟨s, hs⟩ : ∃ s, s = strB q := ⟨_, rfl⟩
                    have hcs : wr.cell? ⟨w.heap.size, q, none⟩ = some (.string s) := by rw [hs]; exact str_cell harr hT hq6
                    have hsz8 : s.size ≤ 8 := by rw [hs]; exact strB_size q
                    have HS : Hid (s = strB q) := hs
                    clear hs
                    go_wp2_with (at_builtin; refine wpList_pushVStr s hT hvb hsz8 rfl (.tmp 100) (.tmp 106) 22 9 rfl i0 Yba.underlying22 Yba.underlying9 hi hz0 hz1 hz2 rfl rfl ?_)
                    intro v1 w1 h1
                    clear hT hc hcs
                    go_wp2_with fail
                    go_roundw
                    case rel => exact ⟨k + 1, vs ++ nums s, st, ao, cp, by omega, by go_num, rfl, h1, by rw [HS.out]; exact good_more _ HG.out HST.out (scan_strB q), by rw [List.length_append, nums_length]; omega, by omega⟩
                    case measure => simp [intOf]; omega
                  · go_wp2_with (at_builtin; refine wpList_pushV 44 hT hvb rfl (.tmp 110) (.tmp 111) 22 rfl i0 Yba.underlying22 hi hz0 hz1 hz2 rfl rfl ?_)
                    intro v1 w1 h1
                    clear hT hc
                    go_wp2_with fail
                    go_roundw
                    case rel => exact ⟨k + 1, vs ++ [44], st, ao, cp, by omega, by go_num, rfl, h1, good_more _ HG.out HST.out scan_comma, by simp; omega, by omega⟩
                    case measure => simp [intOf]; omega
                  · obtain ⟨q, hq⟩ : ∃ q : Nat, z / 6 % 6 = (q : Int) := ⟨(z / 6 % 6).toNat, by omega⟩
                    have hq6 : q < 6 := by omega
                    obtain ⟨s, hs⟩ : ∃ s, s = scalB q := ⟨_, rfl⟩
                    have hcs : wr.cell? ⟨w.heap.size + 1, q, none⟩ = some (.string s) := by rw [hs]; exact scal_cell harr hT hq6
                    have hsz8 : s.size ≤ 8 := by rw [hs]; exact scalB_size q
                    have HS : Hid (s = scalB q) := hs
                    clear hs
                    go_wp2_with (at_builtin; refine wpList_pushVStr s hT hvb hsz8 rfl (.tmp 58) (.tmp 64) 22 9 rfl i0 Yba.underlying22 Yba.underlying9 hi hz0 hz1 hz2 rfl rfl ?_)
                    intro v1 w1 h1
                    clear hT hc hcs
                    go_wp2_with fail
                    go_roundw
                    case rel => exact ⟨k + 1, vs ++ nums s, st, ao, cp, by omega, by go_num, rfl, h1, by rw [HS.out]; exact good_more _ HG.out HST.out (scan_scalB q), by rw [List.length_append, nums_length]; omega, by omega⟩
                    case measure => simp [intOf]; omega
              · have HG : Hid (Good vs st) := hG
                clear hG hops hzb hc3 hn3 htl
                go_wp2_with fail
                go_meet
                case rel => exact ⟨vs, st, ao, cp, rfl, hT, HG.out, by omega⟩
          case rest =>
            obtain ⟨vs, st, ao, cp, rfl, hT, hG, hle⟩ := hcut
            go_wp2_with fail
            go_loopw [12, 13] (fun vv sv wr => ∃ vs st ao cp, sv = .slice ao st.length cp ∧ Two W3 (w.heap.size + 3) wr vv sv vs st ∧ Good vs st ∧ vs.length + st.length ≤ 15000) (fun _ sv _ => lenOf sv)
            case atStart => exact ⟨vs, st, ao, cp, rfl, hT, hG, hle⟩
            case round =>
              clear hT hG hle
              obtain ⟨vs, st, ao, cp, rfl, hT, hG, hle⟩ := hrel
              rcases nil_or_last st with rfl | ⟨st0, c, rfl⟩
              · go_wp2_with fail
                go_meet
                case rel => exact end_rel hT hG hle
              · obtain ⟨g, rfl, hcell, hcp⟩ := pop_facts hT
                have HG : Hid (Good (vs ++ [c]) st0) := good_close hG
                have HLE : Hid ((vs ++ [c]).length + st0.length ≤ 15000) := by show _ ≤ _; simp at hle ⊢; omega
                have hvl : vs.length ≤ 100000 := by omega
                obtain ⟨m, hm⟩ : ∃ m, m = st0.length := ⟨_, rfl⟩
                have hmb : m ≤ 15000 := by simp at hle; omega
                rw [← hm] at hcell hcp
                rw [show (st0 ++ [c]).length = m + 1 by simp [hm]]
                have HM : Hid (m = st0.length) := hm
                clear hm hG hle
                go_wp2_with (at_builtin; refine wpList_pushV c hT hvl rfl (.tmp 117) (.tmp 124) 22 rfl i0 Yba.underlying22 hi hz0 hz1 hz2 rfl rfl ?_)
                intro v1 w1 h1
                have h2 := h1.pop
                clear h1 hT hcell
                go_wp2_with fail
                go_roundw
                case rel => exact ⟨vs ++ [c], st0, some ⟨g, 0, none⟩, cp, by rw [HM.out], by rw [HM.out]; exact h2, HG.out, HLE.out⟩
                case measure => simp [lenOf]
    case rest =>
      obtain ⟨vs, hown, hbel, hmax, hpos, hvl⟩ := hcut
      have T := tail_facts harr hown hbel hpos
      obtain ⟨g, cap, hv, hcap, hvc, hdel, hb0, hsz⟩ := T
      have HVL : Hid _ := hvl
      have HTL : Hid (tl.length = len3) := htl
      clear hown hvl htl
      obtain ⟨q, hq⟩ : ∃ q : Nat, a2 % 7 = (q : Int) := ⟨(a2 % 7).toNat, by omega⟩
      have hq7 : q < 7 := by omega
      obtain ⟨n, hn⟩ : ∃ n, n = vs.length := ⟨_, rfl⟩
      rw [hv]
      rw [← hn] at hcap hpos hmax ⊢
      have HN : Hid (n = vs.length) := hn
      clear hn hv
      go_wp2_with (at_make; refine wpList_make_own _ rfl _ _ 22 rfl wc.heap.size 5 i0 (.int .u8 0) 1 Yba.underlying22 hi hz0 hz1 _ _ _ (n + 1 + len3) rfl rfl (by omega) ?b2 ?b3 ?b4 ?_)
      case b2 => rw [hz2]; omega
      case b3 => unfold maxLen; omega
      case b4 => exact Nat.le_refl _
      intro w1 hown1 hgrow1
      have hb1 : Below wc.heap.size wc w1 := (Below.refl _ _).grown hgrow1 (Nat.le_refl _) (fun k h => by cases h)
      have hvc1 : ∀ j u, (cells vs)[j]? = some u → w1.cell? ((⟨g, 0, none⟩ : Addr).add j) = some u := fun j u hj => by
        have h := hvc j u hj
        rw [hb1.cell (World.block_lt_of_cell? wc _ h), h]
      have HVC1 : Hid _ := hvc1
      have HL1 : Hid ((cells vs).length = n * 1) := by show _ = _; rw [cells_length, HN.out, Nat.mul_one]
      clear hgrow1 hvc hvc1
      go_wp2_with (at_builtin; refine wpList_append_fits _ rfl (.tmp 158) (.tmp 159) 22 rfl wc.heap.size 5 i0 1 Yba.underlying22 hi hz1 wc.heap.size 0 (n + 1 + len3) [] rfl hown1 ⟨g, 0, none⟩ n cap (cells vs) rfl HL1.out HVC1.out (ints_oneCell _ _) (by omega) ?_)
      intro w2 hown2 hgrow2
      have hb2 : Below wc.heap.size wc w2 := hb1.grown hgrow2 hb1.size (fun k h => by cases h; exact Nat.le_refl _)
      have hd2 : w2.cell? ⟨w.heap.size + 1 + 1, q, none⟩ = some (.int .u8 (delB q)) := by
        rw [hb2.cell (p := ⟨w.heap.size + 1 + 1, q, none⟩) (by show w.heap.size + 1 + 1 < _; omega), hdel q hq7]
      obtain ⟨dc, hdc⟩ : ∃ dc, dc = delB q := ⟨_, rfl⟩
      rw [← hdc] at hd2
      have HD : Hid (dc = delB q) := hdc
      clear hdc hdel hown1 hgrow2 hb1 HVC1 HL1
      go_wp2_with (at_builtin; refine wpList_append_fits _ rfl (.tmp 161) (.tmp 167) 22 rfl wc.heap.size 5 i0 1 Yba.underlying22 hi hz1 wc.heap.size n (n + 1 + len3) (cells vs) rfl (hown2.alloc _) ⟨w2.heap.size, 0, none⟩ 1 1 [.int .u8 dc] rfl rfl ?c1 ?c2 (by omega) ?_)
      case c1 => exact one_new2 w2 _ _
      case c2 => intro u hu; simp at hu; subst hu; rfl
      intro w3 hown3 hgrow3
      have hb3 : Below wc.heap.size wc w3 := (hb2.alloc hb2.size _).grown hgrow3 (by have := hb2.size; simp; omega) (fun k h => by cases h; exact Nat.le_refl _)
      have HC3 : Hid (∀ ad, a3 = some ad → ∀ j u, (cells tl)[j]? = some u → w3.cell? (ad.add j) = some u) := by
        intro ad had j u hj
        have hjl : j < tl.length := by have := (List.getElem?_eq_some_iff.1 hj).1; simpa [cells_length] using this
        have h := hc3 ad had j (by rw [← HTL.out]; exact hjl)
        have hlt := World.block_lt_of_cell? w _ h
        rw [hb3.cell (Nat.lt_of_lt_of_le hlt hb0.size), hb0.cell hlt, h, ← hj]
        simp [cells, List.getD, hjl]
      have HL3 : Hid ((cells tl).length = len3 * 1) := by show _ = _; rw [cells_length, HTL.out, Nat.mul_one]
      have HN3 : Hid _ := hn3
      clear hown2 hgrow3 hb2 hd2 hc3 hn3
      go_wp2_with (at_builtin; refine wpList_append_fits_any _ rfl (.tmp 169) (.tmp 170) 22 rfl wc.heap.size 5 i0 1 Yba.underlying22 hi hz1 wc.heap.size (n + 1) (n + 1 + len3) (cells vs ++ [.int .u8 dc]) rfl hown3 a3 len3 cap3 (cells tl) rfl HL3.out HN3.out HC3.out (ints_oneCell _ _) (by omega) ?_)
      intro w4 hown4 hgrow4
      have hb4 : Below wc.heap.size wc w4 := hb3.grown hgrow4 hb3.size (fun k h => by cases h; exact Nat.le_refl _)
      have hfin : Below w.heap.size w w4 := hb0.trans (hb4.mono hb0.size)
      have hval : Calls Yba.prog 5 #[.slice (some ⟨wc.heap.size, 0, none⟩) (n + 1 + len3) (n + 1 + len3)] w4 fun e w' => e = .returned (.int .i64 n) ∧ w' = w4 := by
        have hle := HN.out
        have htl := HTL.out
        have h := value_any wc.heap.size 0 (n + 1 + len3) (n + 1 + len3) (vs ++ dc :: tl) w4 (by simp; omega) (by omega) (Nat.le_refl _) (by omega) (fun i hi => by
          rw [Nat.zero_add]
          have hc := hown4.cellAt i (by omega)
          rw [hc, show cells vs ++ Value.int .u8 dc :: cells tl = cells (vs ++ dc :: tl) by simp [cells]]
          exact cells_at _ _ (by simp; omega))
        rw [HD.out, HVL.out, ← hle] at h
        exact h
      clear hown3 hown4 hgrow4 hb3 hb4 HC3 HL3 HN3
      go_wp2_with fail
      refine hval.mono ?_
      rintro e w5 ⟨rfl, hw5⟩
      subst w5
      go_wp2_with fail
      go_ret
      exact ⟨rfl, hfin⟩
end Go.Proofs.Ybulkarzq
