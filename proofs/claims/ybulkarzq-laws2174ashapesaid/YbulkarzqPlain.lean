/-
  THE PLAIN FUNCTIONS THAT jsonval.valueLen COMPUTES, and their laws: no Go in sight.
-/
namespace Go.Proofs.Ybulkarzq

/-- A string's bytes behind its opening quote: how many up to and with the closing quote (all, where there is none). 'true': the byte before was a backslash that escapes. -/
def strScan : Bool → List Int → Nat
  | _, [] => 0
  | false, c :: r => if c = 92 then 1 + strScan true r else if c = 34 then 1 else 1 + strScan false r
  | true, _ :: r => 1 + strScan false r

def isOpen (c : Int) : Bool := decide (c = 123) || decide (c = 91)
def isClose (c : Int) : Bool := decide (c = 125) || decide (c = 93)
def isDelim (c : Int) : Bool := decide (c = 44) || decide (c = 125) || decide (c = 93) || decide (c = 32) || decide (c = 9) || decide (c = 10) || decide (c = 13)

/-- A container's bytes, by mode (0: outside a string, 1: inside, 2: inside behind a backslash) and depth: how many are taken. -/
def scan : Nat → Nat → List Int → Nat
  | _, _, [] => 0
  | 0, d, c :: r => if c = 34 then 1 + scan 1 d r else if isOpen c then 1 + scan 0 (d + 1) r else if isClose c then (if d ≤ 1 then 1 else 1 + scan 0 (d - 1) r) else 1 + scan 0 d r
  | 1, d, c :: r => if c = 92 then 1 + scan 2 d r else if c = 34 then 1 + scan 0 d r else 1 + scan 1 d r
  | _ + 2, d, _ :: r => 1 + scan 1 d r

/-- Any other value: up to the first delimiter. -/
def litScan : List Int → Nat
  | [] => 0
  | c :: r => if isDelim c then 0 else 1 + litScan r

def vlen : List Int → Nat
  | [] => 0
  | c :: r => if c = 34 then 1 + strScan false r else if isOpen c then scan 0 0 (c :: r) else litScan (c :: r)

theorem strScan_le : ∀ (l : List Int) (b : Bool), strScan b l ≤ l.length
  | [], b => by cases b <;> simp [strScan]
  | c :: r, b => by
    have h1 := strScan_le r true
    have h2 := strScan_le r false
    cases b <;> simp only [strScan, List.length_cons]
    · split
      · omega
      · split <;> omega
    · omega

theorem scan_le : ∀ (l : List Int) (m d : Nat), scan m d l ≤ l.length
  | [], m, d => by simp [scan]
  | c :: r, 0, d => by
    have h1 := scan_le r 1 d
    have h2 := scan_le r 0 (d + 1)
    have h3 := scan_le r 0 (d - 1)
    have h4 := scan_le r 0 d
    simp only [scan, List.length_cons]
    split
    · omega
    · split
      · omega
      · split
        · split <;> omega
        · omega
  | c :: r, 1, d => by
    have h1 := scan_le r 2 d
    have h2 := scan_le r 0 d
    have h3 := scan_le r 1 d
    simp only [scan, List.length_cons]
    split
    · omega
    · split <;> omega
  | c :: r, m + 2, d => by
    have h1 := scan_le r 1 d
    simp only [scan, List.length_cons]
    omega

theorem litScan_le : ∀ (l : List Int), litScan l ≤ l.length
  | [] => by simp [litScan]
  | c :: r => by
    have h := litScan_le r
    simp only [litScan, List.length_cons]
    split <;> omega

theorem vlen_le (l : List Int) : vlen l ≤ l.length := by
  cases l with
  | nil => simp [vlen]
  | cons c r =>
    have h1 := strScan_le r false
    have h2 := scan_le (c :: r) 0 0
    have h3 := litScan_le (c :: r)
    simp only [vlen]
    split
    · simp; omega
    · split <;> assumption

/-- Inside a string the container's scan goes as the string's own. -/
theorem scan_str : ∀ (l : List Int) (d : Nat), scan 1 d l = strScan false l + scan 0 d (l.drop (strScan false l)) ∧ scan 2 d l = strScan true l + scan 0 d (l.drop (strScan true l))
  | [], d => by simp [scan, strScan]
  | c :: r, d => by
    obtain ⟨h1, h2⟩ := scan_str r d
    constructor
    · simp only [scan, strScan]
      split
      · rw [h2, Nat.add_comm 1 (strScan true r), List.drop_succ_cons]; omega
      · split
        · simp
        · rw [h1, Nat.add_comm 1 (strScan false r), List.drop_succ_cons]; omega
    · simp only [scan, strScan]
      rw [h1, Nat.add_comm 1 (strScan false r), List.drop_succ_cons]; omega

theorem drop_at (zs : List Int) (k : Nat) (h : k < zs.length) : zs.drop k = zs.getD k 0 :: zs.drop (k + 1) := by
  rw [List.drop_eq_getElem_cons h]
  simp [List.getD, h]

/-- What a string's loop still has to find from place k on. -/
def strAt (zs : List Int) (k : Nat) : Nat := min k zs.length + strScan false (zs.drop k)

theorem strAt_esc (zs : List Int) (k : Nat) (h : k < zs.length) (hc : zs.getD k 0 = 92) : strAt zs (k + 2) = strAt zs k := by
  unfold strAt
  rw [drop_at zs k h, hc]
  by_cases h2 : k + 1 < zs.length
  · rw [drop_at zs (k + 1) h2]
    simp only [strScan, if_true]
    rw [show k + 1 + 1 = k + 2 from rfl]
    omega
  · have e1 : zs.drop (k + 1) = [] := List.drop_eq_nil_of_le (by omega)
    have e2 : zs.drop (k + 2) = [] := List.drop_eq_nil_of_le (by omega)
    rw [e1, e2]
    simp only [strScan, if_true]
    omega

theorem strAt_end (zs : List Int) (k : Nat) (h : k < zs.length) (hc : zs.getD k 0 = 34) : strAt zs k = k + 1 := by
  unfold strAt
  rw [drop_at zs k h, hc]
  simp [strScan]
  omega

theorem strAt_go (zs : List Int) (k : Nat) (h : k < zs.length) (h1 : zs.getD k 0 ≠ 92) (h2 : zs.getD k 0 ≠ 34) : strAt zs (k + 1) = strAt zs k := by
  unfold strAt
  rw [drop_at zs k h]
  simp only [strScan, if_neg h1, if_neg h2]
  omega

theorem strAt_out (zs : List Int) (k : Nat) (h : zs.length ≤ k) : strAt zs k = zs.length := by
  unfold strAt
  rw [List.drop_eq_nil_of_le h]
  simp [strScan]
  omega

/-- What any other value's loop still has to find. -/
def litAt (zs : List Int) (k : Nat) : Nat := k + litScan (zs.drop k)

theorem litAt_end (zs : List Int) (k : Nat) (h : k < zs.length) (hc : isDelim (zs.getD k 0) = true) : litAt zs k = k := by
  unfold litAt
  rw [drop_at zs k h]
  generalize zs.getD k 0 = c at hc
  simp [litScan, hc]

theorem litAt_go (zs : List Int) (k : Nat) (h : k < zs.length) (hc : isDelim (zs.getD k 0) = false) : litAt zs (k + 1) = litAt zs k := by
  unfold litAt
  rw [drop_at zs k h]
  generalize zs.getD k 0 = c at hc
  simp [litScan, hc]
  omega

theorem litAt_out (zs : List Int) (k : Nat) (h : k = zs.length) : litAt zs k = zs.length := by
  unfold litAt
  rw [List.drop_eq_nil_of_le (by omega)]
  simp [litScan]
  omega

/-- What a container's loop still has to find. -/
def conAt (zs : List Int) (k d : Nat) : Nat := k + scan 0 d (zs.drop k)

theorem conAt_str (zs : List Int) (k d : Nat) (h : k < zs.length) (hc : zs.getD k 0 = 34) : conAt zs (k + (1 + strScan false (zs.drop (k + 1)))) d = conAt zs k d := by
  unfold conAt
  rw [drop_at zs k h, hc]
  have h1 := (scan_str (zs.drop (k + 1)) d).1
  simp only [scan, if_true]
  rw [h1, List.drop_drop, ← Nat.add_assoc k 1]
  omega

theorem conAt_open (zs : List Int) (k d : Nat) (h : k < zs.length) (h1 : zs.getD k 0 ≠ 34) (hc : isOpen (zs.getD k 0) = true) : conAt zs (k + 1) (d + 1) = conAt zs k d := by
  unfold conAt
  rw [drop_at zs k h]
  simp only [scan, if_neg h1, hc, if_true]
  omega

theorem conAt_end (zs : List Int) (k : Nat) (h : k < zs.length) (h1 : zs.getD k 0 ≠ 34) (h2 : isOpen (zs.getD k 0) = false) (hc : isClose (zs.getD k 0) = true) : conAt zs k 1 = k + 1 := by
  unfold conAt
  rw [drop_at zs k h]
  generalize zs.getD k 0 = c at h1 h2 hc
  simp [scan, h1, h2, hc]

theorem conAt_close (zs : List Int) (k d : Nat) (h : k < zs.length) (hd : 2 ≤ d) (h1 : zs.getD k 0 ≠ 34) (h2 : isOpen (zs.getD k 0) = false) (hc : isClose (zs.getD k 0) = true) : conAt zs (k + 1) (d - 1) = conAt zs k d := by
  unfold conAt
  rw [drop_at zs k h]
  simp only [scan, if_neg h1, h2, hc, if_true, Bool.false_eq_true, if_false]
  rw [if_neg (by omega)]
  omega

theorem conAt_go (zs : List Int) (k d : Nat) (h : k < zs.length) (h1 : zs.getD k 0 ≠ 34) (h2 : isOpen (zs.getD k 0) = false) (hc : isClose (zs.getD k 0) = false) : conAt zs (k + 1) d = conAt zs k d := by
  unfold conAt
  rw [drop_at zs k h]
  simp only [scan, if_neg h1, h2, hc, Bool.false_eq_true, if_false]
  omega

theorem conAt_out (zs : List Int) (k d : Nat) (h : k = zs.length) : conAt zs k d = zs.length := by
  unfold conAt
  rw [List.drop_eq_nil_of_le (by omega)]
  simp [scan]
  omega

theorem strAt_drop (zs : List Int) (k : Nat) (h : k < zs.length) : strAt (zs.drop k) 1 = 1 + strScan false (zs.drop (k + 1)) := by
  unfold strAt
  rw [List.drop_drop, List.length_drop]
  omega

theorem open_cases {c : Int} (h : isOpen c = true) : c = 123 ∨ c = 91 := by simpa [isOpen] using h
theorem close_cases {c : Int} (h : isClose c = true) : c = 125 ∨ c = 93 := by simpa [isClose] using h
theorem open_not {c : Int} (h : isOpen c = false) : c ≠ 123 ∧ c ≠ 91 := by simpa [isOpen] using h
theorem close_not {c : Int} (h : isClose c = false) : c ≠ 125 ∧ c ≠ 93 := by simpa [isClose] using h

theorem delim_cases {c : Int} (h : isDelim c = true) : c = 44 ∨ c = 125 ∨ c = 93 ∨ c = 32 ∨ c = 9 ∨ c = 10 ∨ c = 13 := by simpa [isDelim, or_assoc] using h
theorem delim_not {c : Int} (h : isDelim c = false) : c ≠ 44 ∧ c ≠ 125 ∧ c ≠ 93 ∧ c ≠ 32 ∧ c ≠ 9 ∧ c ≠ 10 ∧ c ≠ 13 := by simpa [isDelim, and_assoc] using h

end Go.Proofs.Ybulkarzq
