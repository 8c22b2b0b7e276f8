/-
  CONTRACTS of paxos.ascending (function 5) and paxos.zzs2177aspec (function 6).
-/
import Derived.Test.YbulkasbgRows
import Derived.WalkKit
import Derived.WalkSpells
import Derived.Deep.QuietTactic
import Derived.BigQuiet
namespace Go.Proofs.Ybulkasbg
open Go.RowKit

/-- What 'ascending' asks at place i. -/
def ok (zs : List Int) (i : Nat) : Prop := (i = 0 → zs.getD 0 0 ≠ 0) ∧ (0 < i → zs.getD (i - 1) 0 < zs.getD i 0)
def Asc (zs : List Int) : Prop := ∀ i, i < zs.length → ok zs i
/-- What 'zzs2177aspec' asks at place i. -/
def pairs (zs : List Int) (i : Nat) : Prop := zs.getD i 0 ≠ 0 ∧ ∀ j, i < j → j < zs.length → zs.getD i 0 < zs.getD j 0
def AllPairs (zs : List Int) : Prop := ∀ i, i < zs.length → pairs zs i

theorem asc_lt {zs : List Int} (h : Asc zs) : ∀ j i, i < j → j < zs.length → zs.getD i 0 < zs.getD j 0
  | 0, i, hij, _ => by omega
  | j + 1, i, hij, hj => by
    have h1 := (h (j + 1) hj).2 (by omega)
    rw [Nat.add_sub_cancel] at h1
    by_cases e : i = j
    · rw [e]; exact h1
    · have h2 := asc_lt h j i (by omega) (by omega)
      omega

theorem asc_pairs (zs : List Int) (hpos : ∀ i, 0 ≤ zs.getD i 0) : Asc zs ↔ AllPairs zs := by
  constructor
  · intro h i hi
    refine ⟨?_, fun j hij hj => asc_lt h j i hij hj⟩
    by_cases e : i = 0
    · rw [e]; exact (h 0 (by omega)).1 rfl
    · have h1 := asc_lt h i 0 (by omega) hi
      have h2 := hpos 0
      omega
  · intro h i hi
    refine ⟨fun e => (h 0 (by omega)).1, fun h0 => (h (i - 1) (by omega)).2 i (by omega) hi⟩

set_option maxHeartbeats 400000 in
/-- No element. -/
theorem asc_none (a : Option Addr) (cap : Nat) (w : World) : Calls Yba.prog 5 #[.slice a 0 cap] w fun e w' => e = .returned (.bool true) ∧ w' = w := by
  go_enter Yba.func5, Yba.ntmps5
  go_wp2
  go_loop [7] (fun i => i = .int .i64 0) (fun _ => 0)
  case atStart => rfl
  case round =>
    subst hrel
    go_wp2
    go_ret
    exact ⟨rfl, rfl⟩

set_option maxHeartbeats 1000000 in
theorem asc_walk (b off len cap : Nat) (zs : List Int) (w : World) (B : Bool) (hB : B = true ↔ Asc zs) (hz : zs.length = len) (hlen : len ≤ 1000000)
    (hcell : ∀ i, i < len → w.cell? ⟨b, off + i, none⟩ = some (.int .u64 (zs.getD i 0))) :
    Calls Yba.prog 5 #[.slice (some ⟨b, off, none⟩) len cap] w fun e w' => e = .returned (.bool B) ∧ w' = w := by
  have HZ : Hid (zs.length = len) := hz
  have HB : Hid (B = true ↔ Asc zs) := hB
  clear hz hB
  go_enter Yba.func5, Yba.ntmps5
  go_wp2
  go_loop [7] (fun i => ∃ k : Nat, k ≤ len ∧ i = .int .i64 k ∧ ∀ j, j < k → ok zs j) (fun i => len - (intOf i).toNat)
  case atStart => exact ⟨0, by omega, rfl, fun j h => by omega⟩
  case round =>
    obtain ⟨k, hk, rfl, hall⟩ := hrel
    have HA : Hid (∀ j, j < k → ok zs j) := hall
    clear hall
    have bad : k < len → ¬ ok zs k → B = false := by
      intro h1 h2
      cases hb : B with
      | false => rfl
      | true => exact absurd ((HB.out.1 hb) k (by rw [HZ.out]; exact h1)) h2
    have more : ok zs k → ∀ j, j < k + 1 → ok zs j := by
      intro h1 j hj
      by_cases e : j = k
      · rw [e]; exact h1
      · exact HA.out j (by omega)
    have BAD : Hid _ := bad
    have MORE : Hid _ := more
    clear bad more
    by_cases hlt : k < len
    · have hc := hcell k hlt
      rcases Nat.eq_zero_or_pos k with h0 | h0
      · subst h0
        clear hcell
        rw [Nat.add_zero] at hc
        by_cases hz0 : zs.getD 0 0 = 0
        · have hf := BAD.out hlt (fun h => h.1 rfl hz0)
          rw [hz0] at hc
          subst hf
          clear hz0
          go_wp2
          go_ret
          exact ⟨rfl, rfl⟩
        · have HO : Hid (ok zs 0) := ⟨fun _ => hz0, fun h => by omega⟩
          generalize zs.getD 0 0 = z at hc hz0
          have t : (z == 0) = false := by simpa using hz0
          clear hz0
          go_wp2
          go_round
          case rel => exact ⟨1, by omega, rfl, MORE.out HO.out⟩
          case measure => simp [intOf]; omega
      · have hp := hcell (k - 1) (by omega)
        clear hcell
        have t0 : ((k : Int) == 0) = false := by simp; omega
        by_cases hz0 : zs.getD (k - 1) 0 < zs.getD k 0
        · have HO : Hid (ok zs k) := ⟨fun h => by omega, fun _ => hz0⟩
          generalize zs.getD k 0 = z at hc hz0
          generalize zs.getD (k - 1) 0 = p at hp hz0
          have t : decide (z ≤ p) = false := decide_eq_false (by omega)
          go_wp2
          go_round
          case rel => exact ⟨k + 1, by omega, by go_num, MORE.out HO.out⟩
          case measure => simp [intOf]; omega
        · have hf := BAD.out hlt (fun h => hz0 (h.2 h0))
          generalize zs.getD k 0 = z at hc hz0
          generalize zs.getD (k - 1) 0 = p at hp hz0
          have t : decide (z ≤ p) = true := decide_eq_true (by omega)
          subst hf
          go_wp2
          go_ret
          exact ⟨rfl, rfl⟩
    · have hf : B = true := HB.out.2 (fun j hj => HA.out j (by rw [HZ.out] at hj; omega))
      clear hcell
      subst hf
      go_wp2
      go_ret
      exact ⟨rfl, rfl⟩

end Go.Proofs.Ybulkasbg
