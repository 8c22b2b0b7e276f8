/-
  THE CONTRACT OF jsonval.valueLen (function 5), the third branch; all branches in one; zzs2174adelim (function 6).
-/
import Derived.Test.YbulkarzqValue
namespace Go.Proofs.Ybulkarzq
open Go.RowKit

set_option maxHeartbeats 400000 in
theorem delim_any (c : Int) (w : World) : Calls Yba.prog 6 #[.int .u8 c] w fun e w' => e = .returned (.bool (isDelim c)) ∧ w' = w := by
  cases h : isDelim c with
  | true =>
    rcases delim_cases h with rfl | rfl | rfl | rfl | rfl | rfl | rfl
    all_goals
      clear h
      go_enter Yba.func6, Yba.ntmps6
      go_wp2
      go_ret
      exact ⟨rfl, rfl⟩
  | false =>
    obtain ⟨h1, h2, h3, h4, h5, h6, h7⟩ := delim_not h
    have t1 : (c == 44) = false := by simpa using h1
    have t2 : (c == 125) = false := by simpa using h2
    have t3 : (c == 93) = false := by simpa using h3
    have t4 : (c == 32) = false := by simpa using h4
    have t5 : (c == 9) = false := by simpa using h5
    have t6 : (c == 10) = false := by simpa using h6
    have t7 : (c == 13) = false := by simpa using h7
    clear h h1 h2 h3 h4 h5 h6 h7
    go_enter Yba.func6, Yba.ntmps6
    go_wp2
    go_ret
    exact ⟨rfl, rfl⟩

set_option maxHeartbeats 1000000 in
theorem value_lit (b off len cap : Nat) (zs : List Int) (w : World) (hz : zs.length = len) (hlen : len ≤ 1000000) (h0 : 0 < len) (hq : zs.getD 0 0 ≠ 34) (ho : isOpen (zs.getD 0 0) = false)
    (hcell : ∀ i, i < len → w.cell? ⟨b, off + i, none⟩ = some (.int .u8 (zs.getD i 0))) :
    Calls Yba.prog 5 #[.slice (some ⟨b, off, none⟩) len cap] w fun e w' => e = .returned (.int .i64 (litAt zs 0 : Nat)) ∧ w' = w := by
  have hc0 := hcell 0 h0
  have HZ : Hid (zs.length = len) := hz
  clear hz
  obtain ⟨c0, hcc0⟩ : ∃ c, c = zs.getD 0 0 := ⟨_, rfl⟩
  rw [← hcc0, Nat.add_zero] at hc0
  rw [← hcc0] at hq ho
  clear hcc0
  have q1 : (c0 == 34) = false := by simpa using hq
  obtain ⟨o1, o2⟩ := open_not ho
  have q2 : (c0 == 123) = false := by simpa using o1
  have q3 : (c0 == 91) = false := by simpa using o2
  have hl0 : ((len : Int) == 0) = false := by simp; omega
  clear hq ho o1 o2
  go_enter Yba.func5, Yba.ntmps5
  go_wp2_with fail
  go_loop [6] (fun i => ∃ k : Nat, k ≤ len ∧ i = .int .i64 k ∧ litAt zs k = litAt zs 0) (fun i => len - (intOf i).toNat)
  case atStart => exact ⟨0, by omega, rfl, rfl⟩
  case round =>
    obtain ⟨k, hk, rfl, ha⟩ := hrel
    have HA : Hid (litAt zs k = litAt zs 0) := ha
    clear ha
    by_cases hlt : k < len
    · have hc := hcell k hlt
      clear hcell
      obtain ⟨c, hcc⟩ : ∃ c, c = zs.getD k 0 := ⟨_, rfl⟩
      rw [← hcc] at hc
      have HC : Hid (c = zs.getD k 0) := hcc
      clear hcc
      have hlz : k < zs.length := by rw [HZ.out]; exact hlt
      cases h : isDelim c with
      | true =>
        have HE : Hid (litAt zs k = k) := litAt_end zs k hlz (by rw [← HC.out]; exact h)
        clear hlz
        rcases delim_cases h with rfl | rfl | rfl | rfl | rfl | rfl | rfl
        all_goals
          clear h
          go_wp2_with fail
          go_ret
          exact ⟨ret_int (by rw [← HA.out, HE.out]), rfl⟩
      | false =>
        have HE : Hid (litAt zs (k + 1) = litAt zs k) := litAt_go zs k hlz (by rw [← HC.out]; exact h)
        obtain ⟨h1, h2, h3, h4, h5, h6, h7⟩ := delim_not h
        have t1 : (c == 44) = false := by simpa using h1
        have t2 : (c == 125) = false := by simpa using h2
        have t3 : (c == 93) = false := by simpa using h3
        have t4 : (c == 32) = false := by simpa using h4
        have t5 : (c == 9) = false := by simpa using h5
        have t6 : (c == 10) = false := by simpa using h6
        have t7 : (c == 13) = false := by simpa using h7
        clear h h1 h2 h3 h4 h5 h6 h7 hlz
        go_wp2_with fail
        go_round
        case rel => exact ⟨k + 1, by omega, by go_num, HE.out.trans HA.out⟩
        case measure => simp [intOf]; omega
    · clear hcell
      go_wp2_with fail
      go_ret
      exact ⟨ret_int (by rw [← HA.out, litAt_out zs k (by rw [HZ.out]; omega), HZ.out]), rfl⟩

set_option maxHeartbeats 400000 in
/-- No byte: 0. -/
theorem value_none (a : Option Addr) (cap : Nat) (w : World) : Calls Yba.prog 5 #[.slice a 0 cap] w fun e w' => e = .returned (.int .i64 (0 : Nat)) ∧ w' = w := by
  go_enter Yba.func5, Yba.ntmps5
  go_wp2_with fail
  go_ret
  exact ⟨rfl, rfl⟩

/-- ALL BRANCHES. -/
theorem value_any (b off len cap : Nat) (zs : List Int) (w : World) (hz : zs.length = len) (hlen : len ≤ 1000000) (hlc : len ≤ cap) (h0 : 0 < len)
    (hcell : ∀ i, i < len → w.cell? ⟨b, off + i, none⟩ = some (.int .u8 (zs.getD i 0))) :
    Calls Yba.prog 5 #[.slice (some ⟨b, off, none⟩) len cap] w fun e w' => e = .returned (.int .i64 (vlen zs : Nat)) ∧ w' = w := by
  have hcons := drop_at zs 0 (by omega)
  simp only [List.drop_zero, Nat.zero_add] at hcons
  by_cases h34 : zs.getD 0 0 = 34
  · have h := value_str b off len cap zs w hz hlen h0 h34 hcell
    have e : strAt zs 1 = vlen zs := by
      unfold strAt
      conv => rhs; rw [hcons]
      rw [show min 1 zs.length = 1 by omega]
      simp only [vlen, if_pos h34]
    rw [e] at h
    exact h
  · cases ho : isOpen (zs.getD 0 0) with
    | true =>
      have h := value_con b off len cap zs w hz hlen hlc h0 ho hcell
      have e : conAt zs 0 0 = vlen zs := by
        unfold conAt
        rw [List.drop_zero, Nat.zero_add]
        conv => rhs; rw [hcons]
        simp only [vlen, if_neg h34, ho, if_true]
        rw [← hcons]
      rw [e] at h
      exact h
    | false =>
      have h := value_lit b off len cap zs w hz hlen h0 h34 ho hcell
      have e : litAt zs 0 = vlen zs := by
        unfold litAt
        rw [List.drop_zero, Nat.zero_add]
        conv => rhs; rw [hcons]
        simp only [vlen, if_neg h34, ho, Bool.false_eq_true, if_false]
        rw [← hcons]
      rw [e] at h
      exact h

end Go.Proofs.Ybulkarzq
