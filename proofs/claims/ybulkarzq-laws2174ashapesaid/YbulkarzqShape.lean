/-
  THE WALK OF 'jsonval.LawS2174AShape' (function 4), and the plain laws that it wants.
-/
import Derived.Test.YbulkarzqValue2
namespace Go.Proofs.Ybulkarzq
open Go.RowKit

theorem str_last : ∀ (l : List Int) (b : Bool), strScan b l = l.length ∨ (1 ≤ strScan b l ∧ l.getD (strScan b l - 1) 0 = 34)
  | [], b => by cases b <;> simp [strScan]
  | c :: r, b => by
    have step : ∀ b', (strScan b' r = r.length ∨ (1 ≤ strScan b' r ∧ r.getD (strScan b' r - 1) 0 = 34)) → (1 + strScan b' r = (c :: r).length ∨ (1 ≤ 1 + strScan b' r ∧ (c :: r).getD (1 + strScan b' r - 1) 0 = 34)) := by
      intro b' h
      rcases h with h | ⟨h1, h2⟩
      · left; simp [h]; omega
      · right
        refine ⟨by omega, ?_⟩
        rw [show 1 + strScan b' r - 1 = (strScan b' r - 1) + 1 by omega, List.getD_cons_succ]
        exact h2
    cases b
    · simp only [strScan]
      split
      · exact step true (str_last r true)
      · split
        · rename_i h34; right; simp [h34]
        · exact step false (str_last r false)
    · simp only [strScan]
      exact step false (str_last r false)

theorem scan_last : ∀ (l : List Int) (m d : Nat), scan m d l = l.length ∨ (1 ≤ scan m d l ∧ isClose (l.getD (scan m d l - 1) 0) = true)
  | [], m, d => by simp [scan]
  | c :: r, m, d => by
    have step : ∀ m' d', (1 + scan m' d' r = (c :: r).length ∨ (1 ≤ 1 + scan m' d' r ∧ isClose ((c :: r).getD (1 + scan m' d' r - 1) 0) = true)) := by
      intro m' d'
      rcases scan_last r m' d' with h | ⟨h1, h2⟩
      · left; simp [h]; omega
      · right
        refine ⟨by omega, ?_⟩
        rw [show 1 + scan m' d' r - 1 = (scan m' d' r - 1) + 1 by omega, List.getD_cons_succ]
        exact h2
    match m with
    | 0 =>
      simp only [scan]
      split
      · exact step 1 d
      · split
        · exact step 0 (d + 1)
        · split
          · split
            · rename_i hc _; right; simpa using hc
            · exact step 0 (d - 1)
          · exact step 0 d
    | 1 =>
      simp only [scan]
      split
      · exact step 2 d
      · split
        · exact step 0 d
        · exact step 1 d
    | m + 2 =>
      simp only [scan]
      exact step 1 d

theorem vlen_str (zs : List Int) (h0 : 0 < zs.length) (h : zs.getD 0 0 = 34) : vlen zs = zs.length ∨ (2 ≤ vlen zs ∧ zs.getD (vlen zs - 1) 0 = 34) := by
  cases zs with
  | nil => simp at h0
  | cons c r =>
    obtain rfl : c = 34 := by simpa using h
    simp only [vlen, if_true]
    rcases str_last r false with h | ⟨h1, h2⟩
    · left; simp [h]; omega
    · right
      refine ⟨by omega, ?_⟩
      rw [show 1 + strScan false r - 1 = (strScan false r - 1) + 1 by omega, List.getD_cons_succ]
      exact h2

theorem vlen_con (zs : List Int) (h0 : 0 < zs.length) (h : isOpen (zs.getD 0 0) = true) : vlen zs = zs.length ∨ (2 ≤ vlen zs ∧ isClose (zs.getD (vlen zs - 1) 0) = true) := by
  cases zs with
  | nil => simp at h0
  | cons c r =>
    have hc : isOpen c = true := by simpa using h
    have h34 : c ≠ 34 := by intro e; rw [e] at hc; cases hc
    simp only [vlen, if_neg h34, hc, if_true, scan]
    rcases scan_last r 0 (0 + 1) with h | ⟨h1, h2⟩
    · left; rw [h]; simp; omega
    · right
      refine ⟨by omega, ?_⟩
      rw [show 1 + scan 0 (0 + 1) r - 1 = (scan 0 (0 + 1) r - 1) + 1 by omega, List.getD_cons_succ]
      exact h2

theorem vlen_lit (zs : List Int) (h0 : 0 < zs.length) (h34 : zs.getD 0 0 ≠ 34) (h : isOpen (zs.getD 0 0) = false) : vlen zs = litAt zs 0 := by
  cases zs with
  | nil => simp at h0
  | cons c r =>
    have hc : isOpen c = false := by simpa using h
    have h34' : c ≠ 34 := by simpa using h34
    simp [vlen, h34', hc, litAt]

set_option maxHeartbeats 400000 in
/-- No byte. -/
theorem shape_none (a : Option Addr) (cap : Nat) (w : World) : Calls Yba.prog 4 #[.slice a 0 cap] w fun e w' => e = .returned (.bool true) ∧ w' = w := by
  go_enter Yba.func4, Yba.ntmps4
  go_wp2_with (go_at_call 5; refine (value_none a cap w).mono ?_; rintro e w' ⟨rfl, hw⟩; subst w')
  go_ret
  exact ⟨rfl, rfl⟩

set_option maxHeartbeats 1000000 in
/-- A string. -/
theorem shape_str (b off len cap : Nat) (zs : List Int) (w : World) (hz : zs.length = len) (hlen : len ≤ 4096) (hlc : len ≤ cap) (h0 : 0 < len) (hq : zs.getD 0 0 = 34)
    (hcell : ∀ i, i < len → w.cell? ⟨b, off + i, none⟩ = some (.int .u8 (zs.getD i 0))) :
    Calls Yba.prog 4 #[.slice (some ⟨b, off, none⟩) len cap] w fun e w' => e = .returned (.bool true) ∧ w' = w := by
  have hv := value_any b off len cap zs w hz (by omega) hlc h0 hcell
  have hle := vlen_le zs
  have hl := vlen_str zs (by omega) hq
  have hc0 : w.cell? ⟨b, off, none⟩ = some (.int .u8 34) := by rw [← hq]; exact hcell 0 h0
  have hl0 : ((len : Int) == 0) = false := by simp; omega
  rw [hz] at hle hl
  generalize vlen zs = n at hv hle hl
  by_cases hn : n = len
  · have t1 : ((n : Int) == (len : Int)) = true := by simp [hn]
    clear hl hcell hz hn
    go_enter Yba.func4, Yba.ntmps4
    go_wp2_with (go_at_call 5; refine hv.mono ?_; rintro e w' ⟨rfl, hw⟩; subst w'; clear hv)
    go_ret
    exact ⟨rfl, rfl⟩
  · have t1 : ((n : Int) == (len : Int)) = false := by simp; omega
    rcases hl with hl | ⟨h2, h3⟩
    · exact absurd hl hn
    · have hcl : w.cell? ⟨b, off + (n - 1), none⟩ = some (.int .u8 34) := by rw [hcell (n - 1) (by omega), h3]
      clear hcell hz hn h3
      go_enter Yba.func4, Yba.ntmps4
      go_wp2_with (go_at_call 5; refine hv.mono ?_; rintro e w' ⟨rfl, hw⟩; subst w'; clear hv)
      go_ret
      exact ⟨rfl, rfl⟩

set_option maxHeartbeats 2000000 in
/-- An array or an object. -/
theorem shape_con (b off len cap : Nat) (zs : List Int) (w : World) (hz : zs.length = len) (hlen : len ≤ 4096) (hlc : len ≤ cap) (h0 : 0 < len) (hq : isOpen (zs.getD 0 0) = true)
    (hcell : ∀ i, i < len → w.cell? ⟨b, off + i, none⟩ = some (.int .u8 (zs.getD i 0))) :
    Calls Yba.prog 4 #[.slice (some ⟨b, off, none⟩) len cap] w fun e w' => e = .returned (.bool true) ∧ w' = w := by
  have hv := value_any b off len cap zs w hz (by omega) hlc h0 hcell
  have hle := vlen_le zs
  have hl := vlen_con zs (by omega) hq
  have hc0 := hcell 0 h0
  have hl0 : ((len : Int) == 0) = false := by simp; omega
  rw [hz] at hle hl
  generalize vlen zs = n at hv hle hl
  generalize zs.getD 0 0 = c0 at hc0 hq
  rw [Nat.add_zero] at hc0
  by_cases hn : n = len
  · have t1 : ((n : Int) == (len : Int)) = true := by simp [hn]
    rcases open_cases hq with rfl | rfl
    all_goals
      clear hl hcell hz hn hq
      go_enter Yba.func4, Yba.ntmps4
      go_wp2_with (go_at_call 5; refine hv.mono ?_; rintro e w' ⟨rfl, hw⟩; subst w'; clear hv)
      go_ret
      exact ⟨rfl, rfl⟩
  · have t1 : ((n : Int) == (len : Int)) = false := by simp; omega
    rcases hl with hl | ⟨h2, h3⟩
    · exact absurd hl hn
    · have hcl := hcell (n - 1) (by omega)
      generalize zs.getD (n - 1) 0 = c1 at hcl h3
      rcases open_cases hq with rfl | rfl
      all_goals
        rcases close_cases h3 with rfl | rfl
        all_goals
          clear hcell hz hn h3 hq
          go_enter Yba.func4, Yba.ntmps4
          go_wp2_with (go_at_call 5; refine hv.mono ?_; rintro e w' ⟨rfl, hw⟩; subst w'; clear hv)
          go_ret
          exact ⟨rfl, rfl⟩

set_option maxHeartbeats 2000000 in
/-- Any other value. -/
theorem shape_lit (b off len cap : Nat) (zs : List Int) (w : World) (hz : zs.length = len) (hlen : len ≤ 4096) (hlc : len ≤ cap) (h0 : 0 < len) (hq : zs.getD 0 0 ≠ 34) (ho : isOpen (zs.getD 0 0) = false)
    (hcell : ∀ i, i < len → w.cell? ⟨b, off + i, none⟩ = some (.int .u8 (zs.getD i 0))) :
    Calls Yba.prog 4 #[.slice (some ⟨b, off, none⟩) len cap] w fun e w' => e = .returned (.bool true) ∧ w' = w := by
  have hv := value_any b off len cap zs w hz (by omega) hlc h0 hcell
  have hle := vlen_le zs
  have hl := vlen_lit zs (by omega) hq ho
  have hc0 := hcell 0 h0
  have hl0 : ((len : Int) == 0) = false := by simp; omega
  rw [hz] at hle
  generalize vlen zs = n at hv hle hl
  have HL : Hid (n = litAt zs 0) := hl
  have HZ : Hid (zs.length = len) := hz
  generalize zs.getD 0 0 = c0 at hc0 hq ho
  rw [Nat.add_zero] at hc0
  have q1 : (c0 == 34) = false := by simpa using hq
  obtain ⟨o1, o2⟩ := open_not ho
  have q2 : (c0 == 123) = false := by simpa using o1
  have q3 : (c0 == 91) = false := by simpa using o2
  have t2 : decide (len < n) = false := decide_eq_false (by omega)
  have t3 : decide ((n : Int) < 0) = false := decide_eq_false (by omega)
  have t4 : decide ((4096 : Int) < (len : Int)) = false := decide_eq_false (by omega)
  clear hl hz hq ho o1 o2
  go_enter Yba.func4, Yba.ntmps4
  go_wp2_with (go_at_call 5; refine hv.mono ?_; rintro e w' ⟨rfl, hw⟩; subst w'; clear hv)
  go_loop [4, 5] (fun wv i => wv = .int .i64 len ∧ ∃ k : Nat, k ≤ len ∧ i = .int .i64 k ∧ litAt zs k = litAt zs 0) (fun _ i => len - (intOf i).toNat)
  case atStart => exact ⟨rfl, 0, by omega, rfl, rfl⟩
  case round =>
    obtain ⟨rfl, k, hk, rfl, ha⟩ := hrel
    have HA : Hid (litAt zs k = litAt zs 0) := ha
    clear ha
    by_cases hlt : k < len
    · have hc := hcell k hlt
      clear hcell
      obtain ⟨c, hcc⟩ : ∃ c, c = zs.getD k 0 := ⟨_, rfl⟩
      rw [← hcc] at hc
      have HC : Hid (c = zs.getD k 0) := hcc
      clear hcc
      have hlz : k < zs.length := by rw [HZ.out]; exact hlt
      have hd := delim_any c w
      cases h : isDelim c with
      | true =>
        have hnk : n = k := by rw [HL.out, ← HA.out]; exact litAt_end zs k hlz (by rw [← HC.out]; exact h)
        have t1 : ((n : Int) == (k : Int)) = true := by simp [hnk]
        rw [h] at hd
        clear hlz h hnk
        go_wp2_with (go_at_call 6; refine hd.mono ?_; rintro e w' ⟨rfl, hw⟩; subst w'; clear hd)
        go_ret
        exact ⟨rfl, rfl⟩
      | false =>
        have HE : Hid (litAt zs (k + 1) = litAt zs k) := litAt_go zs k hlz (by rw [← HC.out]; exact h)
        rw [h] at hd
        clear hlz h
        go_wp2_with (go_at_call 6; refine hd.mono ?_; rintro e w' ⟨rfl, hw⟩; subst w'; clear hd)
        go_round
        case rel => exact ⟨rfl, k + 1, by omega, by go_num, HE.out.trans HA.out⟩
        case measure => simp [intOf]; omega
    · have hnl : n = len := by rw [HL.out, ← HA.out, litAt_out zs k (by rw [HZ.out]; omega), HZ.out]
      have t1 : ((n : Int) == (len : Int)) = true := by simp [hnl]
      clear hcell hnl
      go_wp2_with fail
      go_ret
      exact ⟨rfl, rfl⟩

end Go.Proofs.Ybulkarzq
