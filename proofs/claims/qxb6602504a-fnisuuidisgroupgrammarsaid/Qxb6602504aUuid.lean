/-
  The walks of 'isLowerHex' (17), 'zzHexIndex' (15), 'IsUUID' (10), 'zzUUIDGrammar' (11), and of the law (4).
-/
import Derived.Test.Qxb6602504aRows
import Derived.WalkKit
import Derived.WalkSpells
namespace Go.Proofs.Qxb6602504a
open Go.RowKit

/-- A lower-case hexadecimal digit. -/
def Hex (n : Int) : Prop := (48 ≤ n ∧ n ≤ 57) ∨ (97 ≤ n ∧ n ≤ 102)

theorem hex_yes (n : Int) (w : World) (h : Hex n) : Calls Try.prog 17 #[.int .u8 n] w fun e w' => e = .returned (.bool true) ∧ w = w' := by
  rcases h with ⟨h1, h2⟩ | ⟨h1, h2⟩
  · go_enter Try.func17, Try.ntmps17
    go_wp2
    go_ret
    exact ⟨rfl, rfl⟩
  · have h3 : 57 < n := by omega
    go_enter Try.func17, Try.ntmps17
    go_wp2
    go_ret
    exact ⟨rfl, rfl⟩

theorem hex_no (n : Int) (w : World) (h : ¬ Hex n) : Calls Try.prog 17 #[.int .u8 n] w fun e w' => e = .returned (.bool false) ∧ w = w' := by
  have hc : n < 48 ∨ (57 < n ∧ n < 97) ∨ 102 < n := by unfold Hex at h; omega
  clear h
  rcases hc with h1 | ⟨h1, h2⟩ | h1
  · go_enter Try.func17, Try.ntmps17
    go_wp2
    go_ret
    exact ⟨rfl, rfl⟩
  · have d1 : decide (n ≤ 57) = false := by simp; omega
    go_enter Try.func17, Try.ntmps17
    go_wp2
    go_ret
    exact ⟨rfl, rfl⟩
  · have d1 : decide (n ≤ 57) = false := by simp; omega
    have d2 : decide (n ≤ 102) = false := by simp; omega
    go_enter Try.func17, Try.ntmps17
    go_wp2
    go_ret
    exact ⟨rfl, rfl⟩

def dg (j : Nat) : Int := if j < 10 then 48 + j else 87 + j

theorem dg_at : ∀ (k : Nat) (h : k < (ByteArray.mk #[48, 49, 50, 51, 52, 53, 54, 55, 56, 57, 97, 98, 99, 100, 101, 102]).size), (((ByteArray.mk #[48, 49, 50, 51, 52, 53, 54, 55, 56, 57, 97, 98, 99, 100, 101, 102])[k]'h).toNat : Int) = dg k := by
  have h : ∀ k : Fin 16, (((ByteArray.mk #[48, 49, 50, 51, 52, 53, 54, 55, 56, 57, 97, 98, 99, 100, 101, 102])[k.1]'k.2).toNat : Int) = dg k.1 := by decide
  exact fun k hk => h ⟨k, hk⟩

theorem dg_hex (k : Nat) (h : k < 16) : Hex (dg k) := by
  unfold Hex dg
  split <;> omega

theorem dg_inj (j k : Nat) (h : dg j = dg k) (hj : j < 16) (hk : k < 16) : j = k := by
  unfold dg at h
  split at h <;> split at h <;> omega

theorem hex_dg (n : Int) (h : Hex n) : ∃ d, d < 16 ∧ dg d = n := by
  rcases h with ⟨h1, h2⟩ | ⟨h1, h2⟩
  · refine ⟨(n - 48).toNat, by omega, ?_⟩
    unfold dg
    rw [if_pos (by omega)]
    omega
  · refine ⟨(n - 87).toNat, by omega, ?_⟩
    unfold dg
    rw [if_neg (by omega)]
    omega

theorem hexi_no (n : Int) (w : World) (h : ¬ Hex n) : Calls Try.prog 15 #[.int .u8 n] w fun e w' => e = .returned (.int .i64 (-1)) ∧ w = w' := by
  go_enter Try.func15, Try.ntmps15
  go_wp2
  go_loop [3] (fun i => ∃ k : Nat, k ≤ 16 ∧ i = .int .i64 k) (fun i => 16 - (intOf i).toNat)
  case atStart => exact ⟨0, Nat.zero_le _, rfl⟩
  case round =>
    obtain ⟨k, hk, rfl⟩ := hrel
    by_cases hlt : k < 16
    · have hdg := dg_at k hlt
      have hne : (dg k == n) = false := by
        rw [beq_eq_false_iff_ne]
        rintro rfl
        exact h (dg_hex k hlt)
      clear h
      go_wp2
      go_round
      case rel => exact ⟨k + 1, by omega, by go_num⟩
      case measure => simp [intOf]; omega
    · go_wp2
      go_ret
      exact ⟨rfl, rfl⟩

theorem hexi_yes (n : Int) (w : World) (h : Hex n) : Calls Try.prog 15 #[.int .u8 n] w fun e w' => w = w' ∧ ∃ d : Nat, e = .returned (.int .i64 d) ∧ d < 16 := by
  obtain ⟨d, hd, hn⟩ := hex_dg n h
  have HN : Hid (dg d = n) := hn
  clear hn h
  go_enter Try.func15, Try.ntmps15
  go_wp2
  go_loop [3] (fun i => ∃ k : Nat, k ≤ d ∧ i = .int .i64 k) (fun i => 16 - (intOf i).toNat)
  case atStart => exact ⟨0, Nat.zero_le _, rfl⟩
  case round =>
    obtain ⟨k, hk, rfl⟩ := hrel
    have hlt : k < 16 := by omega
    have hdg := dg_at k hlt
    by_cases he : k = d
    · subst he
      have heq : (dg k == n) = true := by rw [HN.out]; simp
      go_wp2
      go_ret
      exact ⟨rfl, k, rfl, hd⟩
    · have hne : (dg k == n) = false := by
        rw [beq_eq_false_iff_ne, ← HN.out]
        exact fun h => he (dg_inj k d h hlt hd)
      go_wp2
      go_round
      case rel => exact ⟨k + 1, by omega, by go_num⟩
      case measure => simp [intOf]; omega

end Go.Proofs.Qxb6602504a
