/-
  THE PLAIN LAW OF 'jsonval.LawS2174ARoundTrip': what is built is taken whole by 'vlen', whatever follows it.
-/
import Derived.Test.YbulkarzqPlain
import Derived.Test.YbulkarzqKit
namespace Go.Proofs.Ybulkarzq

def strB : Nat → ByteArray
  | 0 => ⟨#[34, 120, 34]⟩
  | 1 => ⟨#[34, 92, 34, 34]⟩
  | 2 => ⟨#[34, 92, 92, 34]⟩
  | 3 => ⟨#[34, 97, 93, 125, 44, 91, 34]⟩
  | 4 => ⟨#[34, 123, 91, 92, 34, 92, 92, 34]⟩
  | _ => ⟨#[34, 34]⟩

def scalB : Nat → ByteArray
  | 0 => ⟨#[116, 114, 117, 101]⟩
  | 1 => ⟨#[102, 97, 108, 115, 101]⟩
  | 2 => ⟨#[110, 117, 108, 108]⟩
  | 3 => ⟨#[45, 49, 46, 53, 101, 51]⟩
  | 4 => ⟨#[48]⟩
  | _ => ⟨#[49, 50]⟩

def delB : Nat → Int
  | 0 => 44
  | 1 => 125
  | 2 => 93
  | 3 => 32
  | 4 => 9
  | 5 => 10
  | _ => 13

theorem strB_size (i : Nat) : (strB i).size ≤ 8 := by
  match i with
  | 0 => decide
  | 1 => decide
  | 2 => decide
  | 3 => decide
  | 4 => decide
  | _ + 5 => show (2 : Nat) ≤ 8; omega

theorem scalB_size (i : Nat) : (scalB i).size ≤ 8 := by
  match i with
  | 0 => decide
  | 1 => decide
  | 2 => decide
  | 3 => decide
  | 4 => decide
  | _ + 5 => show (2 : Nat) ≤ 8; omega

theorem delB_delim (i : Nat) : isDelim (delB i) = true := by
  match i with
  | 0 => decide
  | 1 => decide
  | 2 => decide
  | 3 => decide
  | 4 => decide
  | 5 => decide
  | _ + 6 => show isDelim 13 = true; decide

theorem str_cases (i : Nat) : nums (strB i) = [34, 120, 34] ∨ nums (strB i) = [34, 92, 34, 34] ∨ nums (strB i) = [34, 92, 92, 34] ∨ nums (strB i) = [34, 97, 93, 125, 44, 91, 34] ∨ nums (strB i) = [34, 123, 91, 92, 34, 92, 92, 34] ∨ nums (strB i) = [34, 34] := by
  match i with
  | 0 => exact .inl rfl
  | 1 => exact .inr (.inl rfl)
  | 2 => exact .inr (.inr (.inl rfl))
  | 3 => exact .inr (.inr (.inr (.inl rfl)))
  | 4 => exact .inr (.inr (.inr (.inr (.inl rfl))))
  | _ + 5 => exact .inr (.inr (.inr (.inr (.inr rfl))))

theorem scal_cases (i : Nat) : nums (scalB i) = [116, 114, 117, 101] ∨ nums (scalB i) = [102, 97, 108, 115, 101] ∨ nums (scalB i) = [110, 117, 108, 108] ∨ nums (scalB i) = [45, 49, 46, 53, 101, 51] ∨ nums (scalB i) = [48] ∨ nums (scalB i) = [49, 50] := by
  match i with
  | 0 => exact .inl rfl
  | 1 => exact .inr (.inl rfl)
  | 2 => exact .inr (.inr (.inl rfl))
  | 3 => exact .inr (.inr (.inr (.inl rfl)))
  | 4 => exact .inr (.inr (.inr (.inr (.inl rfl))))
  | _ + 5 => exact .inr (.inr (.inr (.inr (.inr rfl))))

theorem scan_strB (i d : Nat) (r : List Int) : scan 0 d (nums (strB i) ++ r) = (nums (strB i)).length + scan 0 d r := by
  rcases str_cases i with h | h | h | h | h | h <;> rw [h] <;> simp [scan] <;> omega

theorem scan_scalB (i d : Nat) (r : List Int) : scan 0 d (nums (scalB i) ++ r) = (nums (scalB i)).length + scan 0 d r := by
  rcases scal_cases i with h | h | h | h | h | h <;> rw [h] <;> simp [scan, isOpen, isClose] <;> omega

theorem vlen_strB (i : Nat) (r : List Int) : vlen (nums (strB i) ++ r) = (nums (strB i)).length := by
  rcases str_cases i with h | h | h | h | h | h <;> rw [h] <;> simp [vlen, strScan]

theorem vlen_scalB (i : Nat) (c : Int) (hc : isDelim c = true) (r : List Int) : vlen (nums (scalB i) ++ c :: r) = (nums (scalB i)).length := by
  have h0 : litScan (c :: r) = 0 := by simp [litScan, hc]
  generalize c :: r = t at h0
  rcases scal_cases i with h | h | h | h | h | h <;> rw [h] <;> simp [vlen, litScan, isOpen, isDelim, h0]

/-- What has been built: from here on the scan goes on at depth d (at depth 0 it has ended). -/
def Pre (vs : List Int) (d : Nat) : Prop := ∀ r, scan 0 0 (vs ++ r) = vs.length + (if d = 0 then 0 else scan 0 d r)

structure Good (vs st : List Int) : Prop where
  head : ∃ c r, vs = c :: r ∧ isOpen c = true
  pre : Pre vs st.length
  close : ∀ c ∈ st, isClose c = true

theorem Pre.push {vs ns : List Int} {d d' : Nat} (h : Pre vs d) (hd : d ≠ 0) (hn : ∀ r, scan 0 d (ns ++ r) = ns.length + (if d' = 0 then 0 else scan 0 d' r)) : Pre (vs ++ ns) d' := by
  intro r
  rw [List.append_assoc, h, if_neg hd, hn, List.length_append]
  omega

theorem head_push {vs : List Int} (ns : List Int) (h : ∃ c r, vs = c :: r ∧ isOpen c = true) : ∃ c r, vs ++ ns = c :: r ∧ isOpen c = true := by
  obtain ⟨c, r, rfl, hc⟩ := h
  exact ⟨c, r ++ ns, rfl, hc⟩

theorem good_start {c c' : Int} (hc : isOpen c = true) (hc' : isClose c' = true) : Good [c] [c'] := by
  refine ⟨⟨c, [], rfl, hc⟩, fun r => ?_, fun x hx => by simp at hx; rw [hx]; exact hc'⟩
  have h34 : c ≠ 34 := by intro e; rw [e] at hc; cases hc
  simp [scan, h34, hc]

theorem good_open {vs st : List Int} {c c' : Int} (h : Good vs st) (hs : st ≠ []) (hc : isOpen c = true) (hc' : isClose c' = true) : Good (vs ++ [c]) (st ++ [c']) := by
  have h34 : c ≠ 34 := by intro e; rw [e] at hc; cases hc
  refine ⟨head_push _ h.head, h.pre.push (by simpa using hs) (fun r => ?_), fun x hx => ?_⟩
  · simp [scan, h34, hc]
  · rcases List.mem_append.1 hx with h1 | h1
    · exact h.close x h1
    · simp at h1; rw [h1]; exact hc'

theorem close_facts {c : Int} (h : isClose c = true) : c ≠ 34 ∧ isOpen c = false := by
  rcases close_cases h with rfl | rfl <;> decide

theorem good_close {vs st : List Int} {c : Int} (h : Good vs (st ++ [c])) : Good (vs ++ [c]) st := by
  have hc := h.close c (by simp)
  obtain ⟨h34, ho⟩ := close_facts hc
  refine ⟨head_push _ h.head, h.pre.push (by simp) (fun r => ?_), fun x hx => h.close x (by simp [hx])⟩
  by_cases h0 : st.length = 0
  · simp [scan, h34, ho, hc, h0]
  · simp [scan, h34, ho, hc, h0]

theorem good_more {vs st : List Int} (ns : List Int) (h : Good vs st) (hs : st ≠ []) (hn : ∀ d r, scan 0 d (ns ++ r) = ns.length + scan 0 d r) : Good (vs ++ ns) st := by
  have h0 : st.length ≠ 0 := by simpa using hs
  exact ⟨head_push _ h.head, h.pre.push h0 (fun r => by rw [hn, if_neg h0]), h.close⟩

theorem scan_comma (d : Nat) (r : List Int) : scan 0 d ([44] ++ r) = [(44 : Int)].length + scan 0 d r := by
  simp [scan, isOpen, isClose]

theorem good_end {vs : List Int} (h : Good vs []) (r : List Int) : vlen (vs ++ r) = vs.length := by
  have h1 := h.pre r
  obtain ⟨c, t, rfl, hc⟩ := h.head
  have h34 : c ≠ 34 := by intro e; rw [e] at hc; cases hc
  rw [List.cons_append] at h1 ⊢
  simp only [vlen, if_neg h34, hc, if_true]
  simpa using h1

end Go.Proofs.Ybulkarzq
