/-
  THE CONTRACT OF jsonval.valueLen (function 5): it computes 'vlen', and the world is as it was.
-/
import Derived.Test.YbulkarzqRows
import Derived.Test.YbulkarzqPlain
import Derived.WalkKit
import Derived.WalkSpells
namespace Go.Proofs.Ybulkarzq
open Go.RowKit

theorem ret_int {k : IntKind} {a b : Int} (h : a = b) : Ending.returned (.int k a) = .returned (.int k b) := by rw [h]

set_option maxHeartbeats 400000 in
theorem value_str (b off len cap : Nat) (zs : List Int) (w : World) (hz : zs.length = len) (hlen : len ≤ 1000000) (h0 : 0 < len) (hq : zs.getD 0 0 = 34)
    (hcell : ∀ i, i < len → w.cell? ⟨b, off + i, none⟩ = some (.int .u8 (zs.getD i 0))) :
    Calls Yba.prog 5 #[.slice (some ⟨b, off, none⟩) len cap] w fun e w' => e = .returned (.int .i64 (strAt zs 1 : Nat)) ∧ w' = w := by
  have hc0 : w.cell? ⟨b, off, none⟩ = some (.int .u8 34) := by rw [← hq]; exact hcell 0 h0
  have HQ : Hid (zs.getD 0 0 = 34) := hq
  have HZ : Hid (zs.length = len) := hz
  clear hq hz
  go_enter Yba.func5, Yba.ntmps5
  go_wp2_with fail
  go_loop [3] (fun i => ∃ k : Nat, k ≤ len + 1 ∧ i = .int .i64 k ∧ strAt zs k = strAt zs 1) (fun i => len + 1 - (intOf i).toNat)
  case atStart => exact ⟨1, by omega, rfl, rfl⟩
  case round =>
    obtain ⟨k, hk, rfl, ha⟩ := hrel
    have HA : Hid (strAt zs k = strAt zs 1) := ha
    clear ha
    by_cases hlt : k < len
    · have hc := hcell k hlt
      clear hcell
      obtain ⟨c, hcc⟩ : ∃ c, c = zs.getD k 0 := ⟨_, rfl⟩
      rw [← hcc] at hc
      have HC : Hid (c = zs.getD k 0) := hcc
      clear hcc
      have hlz : k < zs.length := by rw [HZ.out]; exact hlt
      by_cases h92 : c = 92
      · have e := strAt_esc zs k hlz (by rw [← HC.out]; exact h92)
        have HE : Hid (strAt zs (k + 2) = strAt zs k) := e
        clear e hlz
        subst h92
        go_wp2_with fail
        go_round
        case rel => exact ⟨k + 2, by omega, by go_num, HE.out.trans HA.out⟩
        case measure => simp [intOf]; omega
      · by_cases h34 : c = 34
        · have e := strAt_end zs k hlz (by rw [← HC.out]; exact h34)
          have HE : Hid (strAt zs k = k + 1) := e
          clear e hlz
          subst h34
          go_wp2_with fail
          go_ret
          exact ⟨ret_int (by rw [← HA.out, HE.out]; omega), rfl⟩
        · have e := strAt_go zs k hlz (by rw [← HC.out]; exact h92) (by rw [← HC.out]; exact h34)
          have HE : Hid (strAt zs (k + 1) = strAt zs k) := e
          have t92 : (c == 92) = false := by simpa using h92
          have t34 : (c == 34) = false := by simpa using h34
          clear e hlz h92 h34
          go_wp2_with fail
          go_round
          case rel => exact ⟨k + 1, by omega, by go_num, HE.out.trans HA.out⟩
          case measure => simp [intOf]; omega
    · clear hcell
      go_wp2_with fail
      go_ret
      exact ⟨ret_int (by rw [← HA.out, strAt_out zs k (by rw [HZ.out]; omega), HZ.out]), rfl⟩

set_option maxHeartbeats 1000000 in
theorem value_con (b off len cap : Nat) (zs : List Int) (w : World) (hz : zs.length = len) (hlen : len ≤ 1000000) (hlc : len ≤ cap) (h0 : 0 < len) (hq : isOpen (zs.getD 0 0) = true)
    (hcell : ∀ i, i < len → w.cell? ⟨b, off + i, none⟩ = some (.int .u8 (zs.getD i 0))) :
    Calls Yba.prog 5 #[.slice (some ⟨b, off, none⟩) len cap] w fun e w' => e = .returned (.int .i64 (conAt zs 0 0 : Nat)) ∧ w' = w := by
  have hc0 := hcell 0 h0
  have hstr : ∀ k, k < len → zs.getD k 0 = 34 → Calls Yba.prog 5 #[.slice (some ⟨b, off + k, none⟩) (len - k) (cap - k)] w fun e w' => e = .returned (.int .i64 (1 + strScan false (zs.drop (k + 1)) : Nat)) ∧ w' = w := by
    intro k hk h34
    have h := value_str b (off + k) (len - k) (cap - k) (zs.drop k) w (by simp [hz]) (by omega) (by omega) (by simpa [List.getD] using h34) (fun i hi => by
      rw [Nat.add_assoc, hcell (k + i) (by omega)]
      simp [List.getD])
    rw [strAt_drop zs k (by omega)] at h
    exact h
  have HS : Hid _ := hstr
  have HQ : Hid (isOpen (zs.getD 0 0) = true) := hq
  have HZ : Hid (zs.length = len) := hz
  clear hstr hz
  obtain ⟨c0, hcc0⟩ : ∃ c, c = zs.getD 0 0 := ⟨_, rfl⟩
  rw [← hcc0, Nat.add_zero] at hc0
  rw [← hcc0] at hq
  clear hcc0
  rcases open_cases hq with rfl | rfl
  all_goals
    clear hq
    have hl0 : ((len : Int) == 0) = false := by simp; omega
    go_enter Yba.func5, Yba.ntmps5
    go_wp2_with fail
    go_loop [4, 5] (fun dv i => ∃ k d : Nat, k ≤ len ∧ d ≤ k ∧ (k = 0 ∨ 1 ≤ d) ∧ dv = .int .i64 d ∧ i = .int .i64 k ∧ conAt zs k d = conAt zs 0 0) (fun _ i => len - (intOf i).toNat)
    case atStart => exact ⟨0, 0, by omega, by omega, .inl rfl, rfl, rfl, rfl⟩
    case round =>
      obtain ⟨k, d, hk, hdk, hkd, rfl, rfl, ha⟩ := hrel
      have HA : Hid (conAt zs k d = conAt zs 0 0) := ha
      have HKD : Hid (k = 0 ∨ 1 ≤ d) := hkd
      clear ha hkd
      by_cases hlt : k < len
      · have hc := hcell k hlt
        clear hcell
        obtain ⟨c, hcc⟩ : ∃ c, c = zs.getD k 0 := ⟨_, rfl⟩
        rw [← hcc] at hc
        have HC : Hid (c = zs.getD k 0) := hcc
        clear hcc
        have hlz : k < zs.length := by rw [HZ.out]; exact hlt
        have HD1 : Hid (isOpen c = false → 1 ≤ d) := by
          intro ho
          rcases HKD.out with h | h
          · rw [HC.out, h, HQ.out] at ho; cases ho
          · exact h
        by_cases h34 : c = 34
        · have hd1 : 1 ≤ d := HD1.out (by rw [h34]; rfl)
          have hs := HS.out k hlt (by rw [← HC.out]; exact h34)
          have HE : Hid (conAt zs (k + (1 + strScan false (zs.drop (k + 1)))) d = conAt zs k d) := conAt_str zs k d hlz (by rw [← HC.out]; exact h34)
          have hle : 1 + strScan false (zs.drop (k + 1)) ≤ len - k := by
            have := strScan_le (zs.drop (k + 1)) false
            rw [List.length_drop, HZ.out] at this
            omega
          generalize hn : 1 + strScan false (zs.drop (k + 1)) = n at hs HE hle
          have hn1 : 1 ≤ n := by omega
          clear hlz hn
          subst h34
          go_wp2_with (go_at_call 5; refine hs.mono ?_; rintro e w' ⟨rfl, hw⟩; subst w'; clear hs)
          go_round
          case rel => exact ⟨k + n, d, by omega, by omega, .inr hd1, rfl, by go_num, HE.out.trans HA.out⟩
          case measure => simp [intOf]; omega
        · have t34 : (c == 34) = false := by simpa using h34
          have n34 : zs.getD k 0 ≠ 34 := by rw [← HC.out]; exact h34
          have N34 : Hid (zs.getD k 0 ≠ 34) := n34
          clear h34 n34
          cases hop : isOpen c with
          | true =>
            have HE : Hid (conAt zs (k + 1) (d + 1) = conAt zs k d) := conAt_open zs k d hlz N34.out (by rw [← HC.out]; exact hop)
            clear hlz
            rcases open_cases hop with rfl | rfl
            all_goals
              clear hop
              go_wp2_with fail
              go_round
              case rel => exact ⟨k + 1, d + 1, by omega, by omega, .inr (by omega), by go_num, by go_num, HE.out.trans HA.out⟩
              case measure => simp [intOf]; omega
          | false =>
            have hd1 : 1 ≤ d := HD1.out hop
            have NO : Hid (isOpen (zs.getD k 0) = false) := by show _ = _; rw [← HC.out]; exact hop
            obtain ⟨o1, o2⟩ := open_not hop
            have t1 : (c == 123) = false := by simpa using o1
            have t2 : (c == 91) = false := by simpa using o2
            clear o1 o2 hop
            cases hcl : isClose c with
            | true =>
              by_cases hd2 : d = 1
              · have HE : Hid (conAt zs k 1 = k + 1) := conAt_end zs k hlz N34.out NO.out (by rw [← HC.out]; exact hcl)
                clear hlz
                subst hd2
                rcases close_cases hcl with rfl | rfl
                all_goals
                  clear hcl
                  go_wp2_with fail
                  go_ret
                  exact ⟨ret_int (by rw [← HA.out, HE.out]; omega), rfl⟩
              · have HE : Hid (conAt zs (k + 1) (d - 1) = conAt zs k d) := conAt_close zs k d hlz (by omega) N34.out NO.out (by rw [← HC.out]; exact hcl)
                have hd3 : 2 ≤ d := by omega
                clear hlz hd2
                rcases close_cases hcl with rfl | rfl
                all_goals
                  clear hcl
                  go_wp2_with fail
                  go_round
                  case rel => exact ⟨k + 1, d - 1, by omega, by omega, .inr (by omega), by go_num, by go_num, HE.out.trans HA.out⟩
                  case measure => simp [intOf]; omega
            | false =>
              have HE : Hid (conAt zs (k + 1) d = conAt zs k d) := conAt_go zs k d hlz N34.out NO.out (by rw [← HC.out]; exact hcl)
              obtain ⟨o1, o2⟩ := close_not hcl
              have t3 : (c == 125) = false := by simpa using o1
              have t4 : (c == 93) = false := by simpa using o2
              clear o1 o2 hcl hlz
              go_wp2_with fail
              go_round
              case rel => exact ⟨k + 1, d, by omega, by omega, .inr hd1, rfl, by go_num, HE.out.trans HA.out⟩
              case measure => simp [intOf]; omega
      · clear hcell
        go_wp2_with fail
        go_ret
        exact ⟨ret_int (by rw [← HA.out, conAt_out zs k d (by rw [HZ.out]; omega), HZ.out]), rfl⟩

end Go.Proofs.Ybulkarzq
