/-
  THE CONTRACT of paxos.zzs2177aspec (function 6).
-/
import Derived.Test.YbulkasbgWalks
namespace Go.Proofs.Ybulkasbg
open Go.RowKit

theorem drew_drew (w : World) (a b : Nat) : (w.drewN a).drewN b = w.drewN (a + b) := by
  simp [World.drewN, Nat.add_assoc]

set_option maxHeartbeats 400000 in
/-- No element. -/
theorem spec_none (a : Option Addr) (cap : Nat) (w : World) : Calls Yba.prog 6 #[.slice a 0 cap] w fun e w' => e = .returned (.bool true) ∧ w' = w := by
  go_enter Yba.func6, Yba.ntmps6
  go_wp2
  go_loop [3] (fun i => i = .int .i64 0) (fun _ => 0)
  case atStart => rfl
  case round =>
    subst hrel
    go_wp2
    go_ret
    exact ⟨rfl, rfl⟩

set_option maxHeartbeats 2000000 in
theorem spec_walk (b off len cap : Nat) (zs : List Int) (w : World) (B : Bool) (hB : B = true ↔ AllPairs zs) (hz : zs.length = len) (hlen : len ≤ 1000000)
    (hcell : ∀ i, i < len → w.cell? ⟨b, off + i, none⟩ = some (.int .u64 (zs.getD i 0))) :
    Calls Yba.prog 6 #[.slice (some ⟨b, off, none⟩) len cap] w fun e w' => e = .returned (.bool B) ∧ ∃ q, w' = w.drewN q := by
  have HZ : Hid (zs.length = len) := hz
  have HB : Hid (B = true ↔ AllPairs zs) := hB
  clear hz hB
  go_enter Yba.func6, Yba.ntmps6
  go_wp2
  go_loopw [3] (fun i wr => ∃ k q : Nat, k ≤ len ∧ i = .int .i64 k ∧ wr = w.drewN q ∧ ∀ j, j < k → pairs zs j) (fun i _ => len - (intOf i).toNat)
  case atStart => exact ⟨0, 0, by omega, rfl, rfl, fun j h => by omega⟩
  case round =>
    obtain ⟨k, q, hk, rfl, rfl, hall⟩ := hrel
    have HA : Hid (∀ j, j < k → pairs zs j) := hall
    clear hall
    have BAD : Hid (k < len → ¬ pairs zs k → B = false) := by
      intro h1 h2
      cases hb : B with
      | false => rfl
      | true => exact absurd ((HB.out.1 hb) k (by rw [HZ.out]; exact h1)) h2
    by_cases hlt : k < len
    · have hc := hcell k hlt
      by_cases hz0 : zs.getD k 0 = 0
      · have hf := BAD.out hlt (fun h => h.1 hz0)
        rw [hz0] at hc
        subst hf
        clear hz0 hcell
        go_wp2
        go_ret
        exact ⟨rfl, q, rfl⟩
      · have HN : Hid (zs.getD k 0 ≠ 0) := hz0
        obtain ⟨z, hzz⟩ : ∃ z, z = zs.getD k 0 := ⟨_, rfl⟩
        rw [← hzz] at hc hz0
        have HZK : Hid (z = zs.getD k 0) := hzz
        have t : (z == 0) = false := by simpa using hz0
        clear hz0 hzz
        have HCL : Hid (∀ i, i < len → w.cell? ⟨b, off + i, none⟩ = some (.int .u64 (zs.getD i 0))) := hcell
        clear hcell
        go_wp2
        go_loopw [4] (fun i wr => ∃ j q : Nat, k + 1 ≤ j ∧ j ≤ len ∧ i = .int .i64 j ∧ wr = w.drewN q ∧ ∀ m, k < m → m < j → zs.getD k 0 < zs.getD m 0) (fun i _ => len - (intOf i).toNat)
        case atStart => exact ⟨k + 1, q, by omega, by omega, by go_num, rfl, fun m h1 h2 => by omega⟩
        case round =>
          obtain ⟨j, q2, hj1, hj2, rfl, rfl, hin⟩ := hrel
          have HI : Hid (∀ m, k < m → m < j → zs.getD k 0 < zs.getD m 0) := hin
          clear hin
          by_cases hjl : j < len
          · have hcj := HCL.out j hjl
            have e1 : (j : Int) < (len : Int) := by omega
            have e2 : (k : Int) < (len : Int) := by omega
            obtain ⟨y, hyy⟩ : ∃ y, y = zs.getD j 0 := ⟨_, rfl⟩
            rw [← hyy] at hcj
            have HY : Hid (y = zs.getD j 0) := hyy
            clear hyy
            by_cases hle : y ≤ z
            · have hf := BAD.out hlt (fun h => by have := h.2 j (by omega) (by rw [HZ.out]; exact hjl); rw [← HY.out, ← HZK.out] at this; omega)
              have t2 : decide (y ≤ z) = true := decide_eq_true hle
              subst hf
              go_wp2
              go_quiet (fail)
              go_wp2
              go_ret
              exact ⟨rfl, _, drew_drew w q2 nq⟩
            · have t2 : decide (y ≤ z) = false := decide_eq_false hle
              have HM : Hid (∀ m, k < m → m < j + 1 → zs.getD k 0 < zs.getD m 0) := by
                intro m h1 h2
                by_cases e : m = j
                · rw [e, ← HY.out, ← HZK.out]; omega
                · exact HI.out m h1 (by omega)
              go_wp2
              go_quiet (fail)
              go_wp2
              go_roundw
              case rel => exact ⟨j + 1, _, by omega, by omega, by go_num, rfl, HM.out⟩
              case measure => simp [intOf]; omega
          · have HP : Hid (∀ m, m < k + 1 → pairs zs m) := by
              intro m hm
              by_cases e : m = k
              · rw [e]; exact ⟨HN.out, fun j' h1 h2 => HI.out j' h1 (by rw [HZ.out] at h2; omega)⟩
              · exact HA.out m (by omega)
            go_wp2
            go_roundw
            case rel => exact ⟨k + 1, q2, by omega, by go_num, rfl, HP.out⟩
            case measure => simp [intOf]; omega
    · have hf : B = true := HB.out.2 (fun j hj => HA.out j (by rw [HZ.out] at hj; omega))
      clear hcell
      subst hf
      go_wp2
      go_ret
      exact ⟨rfl, q, rfl⟩

set_option maxHeartbeats 400000 in
/-- LawS2177ASpec at one element or more. -/
theorem law_spec (b off len cap : Nat) (zs : List Int) (w : World) (hz : zs.length = len) (hlen : len ≤ 512) (hpos : ∀ i, 0 ≤ zs.getD i 0)
    (hcell : ∀ i, i < len → w.cell? ⟨b, off + i, none⟩ = some (.int .u64 (zs.getD i 0))) :
    Calls Yba.prog 3 #[.slice (some ⟨b, off, none⟩) len cap] w fun e w' => e = .returned (.bool true) ∧ Below w.heap.size w w' := by
  have hiff := asc_pairs zs hpos
  by_cases ha : Asc zs
  · have h1 := asc_walk b off len cap zs w true (by simp [ha]) hz (by omega) hcell
    have h2 := spec_walk b off len cap zs w true (by simp [hiff.1 ha]) hz (by omega) hcell
    clear hcell hpos hz hiff ha
    go_enter Yba.func3, Yba.ntmps3
    go_wp2_with fail
    refine h1.mono ?_
    rintro e w1 ⟨rfl, hw1⟩
    subst w1
    go_wp2_with fail
    refine h2.mono ?_
    rintro e w2 ⟨rfl, q, hw2⟩
    subst w2
    go_wp2_with fail
    go_ret
    exact ⟨rfl, (Below.refl _ _).trans ⟨rfl, rfl, rfl, Nat.le_refl _, fun _ _ => rfl⟩⟩
  · have hn : ¬ AllPairs zs := fun h => ha (hiff.2 h)
    have h1 := asc_walk b off len cap zs w false (by simp [ha]) hz (by omega) hcell
    have h2 := spec_walk b off len cap zs w false (by simp [hn]) hz (by omega) hcell
    clear hcell hpos hz hiff ha hn
    go_enter Yba.func3, Yba.ntmps3
    go_wp2_with fail
    refine h1.mono ?_
    rintro e w1 ⟨rfl, hw1⟩
    subst w1
    go_wp2_with fail
    refine h2.mono ?_
    rintro e w2 ⟨rfl, q, hw2⟩
    subst w2
    go_wp2_with fail
    go_ret
    exact ⟨rfl, (Below.refl _ _).trans ⟨rfl, rfl, rfl, Nat.le_refl _, fun _ _ => rfl⟩⟩

set_option maxHeartbeats 400000 in
/-- LawS2177ASpec at no element. -/
theorem law_spec_none (a : Option Addr) (cap : Nat) (w : World) : Calls Yba.prog 3 #[.slice a 0 cap] w fun e w' => e = .returned (.bool true) ∧ Below w.heap.size w w' := by
  go_enter Yba.func3, Yba.ntmps3
  go_wp2_with fail
  refine (asc_none a cap w).mono ?_
  rintro e w1 ⟨rfl, hw1⟩
  subst w1
  go_wp2_with fail
  refine (spec_none a cap w).mono ?_
  rintro e w2 ⟨rfl, hw2⟩
  subst w2
  go_wp2_with fail
  go_ret
  exact ⟨rfl, Below.refl _ _⟩

end Go.Proofs.Ybulkasbg
