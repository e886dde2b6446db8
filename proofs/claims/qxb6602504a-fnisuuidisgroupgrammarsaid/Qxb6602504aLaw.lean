/-
  The walks of 'IsUUID' (10), 'zzUUIDGrammar' (11), and of the law (4).
-/
import Derived.Test.Qxb6602504aUuid
namespace Go.Proofs.Qxb6602504a
open Go.RowKit

def Dash (i : Nat) : Prop := i = 8 ∨ i = 13 ∨ i = 18 ∨ i = 23

/-- Place i of the text is there and is what the grammar wants. -/
def Fits (s : ByteArray) (i : Nat) : Prop := ∃ h : i < s.size, (Dash i → ((s[i]'h).toNat : Int) = 45) ∧ (¬ Dash i → Hex ((s[i]'h).toNat : Int))

/-- The grammar. -/
def Uuid (s : ByteArray) : Prop := s.size = 36 ∧ ∀ i, i < 36 → Fits s i

/-- The first k places fit. -/
def Upto (s : ByteArray) (k : Nat) : Prop := ∀ i, i < k → Fits s i

theorem Upto.zero (s : ByteArray) : Upto s 0 := fun _ hi => absurd hi (Nat.not_lt_zero _)
theorem Upto.step {s : ByteArray} {k : Nat} (h : Upto s k) (hk : Fits s k) : Upto s (k + 1) := fun i hi => by
  rcases Nat.lt_succ_iff_lt_or_eq.1 hi with hh | rfl
  · exact h i hh
  · exact hk
theorem no_uuid {s : ByteArray} {k : Nat} (hk : k < 36) (h : ¬ Fits s k) : ¬ Uuid s := fun hu => h (hu.2 k hk)

/-- What a test answers. -/
def Ans (e : Ending) (p : Prop) : Prop := ∃ t, e = .returned (.bool t) ∧ (t = true ↔ p)
theorem ans_no {p : Prop} (h : ¬ p) : Ans (.returned (.bool false)) p := ⟨_, rfl, by simp [h]⟩
theorem ans_yes {p : Prop} (h : p) : Ans (.returned (.bool true)) p := ⟨_, rfl, by simp [h]⟩

set_option maxHeartbeats 800000 in
theorem is_any (s : ByteArray) (w : World) (_hs : s.size ≤ 1048576) : Calls Try.prog 10 #[.string s] w fun e w' => w = w' ∧ Ans e (Uuid s) := by
  by_cases h36 : s.size = 36
  · have hb : ((s.size : Int) != 36) = false := by simp; omega
    have h36' : 36 ≤ s.size := by omega
    have H36 : Hid (s.size = 36) := h36
    clear h36
    go_enter Try.func10, Try.ntmps10
    go_wp2
    go_loop [3] (fun i => ∃ k : Nat, k ≤ s.size ∧ i = .int .i64 k ∧ Upto s k) (fun i => s.size - (intOf i).toNat)
    case atStart => exact ⟨0, Nat.zero_le _, rfl, Upto.zero s⟩
    case round =>
      obtain ⟨k, hk, rfl, hU⟩ := hrel
      by_cases hlt : k < s.size
      · have hk36 : k < 36 := by have := H36.out; omega
        by_cases hD : Dash k
        · by_cases hc : ((s[k].toNat : Nat) : Int) = 45
          · have hF : Fits s k := ⟨hlt, fun _ => hc, fun h => absurd hD h⟩
            have hU' := hU.step hF
            have b1 : (((s[k].toNat : Nat) : Int) != 45) = false := by simp; omega
            clear hU hF hc
            rcases hD with hD | hD | hD | hD
            · have e1 : ((k : Int) == 8) = true := by simp; omega
              clear hD
              go_wp2
              go_round
              case rel => exact ⟨k + 1, by omega, by go_num, hU'⟩
              case measure => simp [intOf]; omega
            · have e1 : ((k : Int) == 8) = false := by simp; omega
              have e2 : ((k : Int) == 13) = true := by simp; omega
              clear hD
              go_wp2
              go_round
              case rel => exact ⟨k + 1, by omega, by go_num, hU'⟩
              case measure => simp [intOf]; omega
            · have e1 : ((k : Int) == 8) = false := by simp; omega
              have e2 : ((k : Int) == 13) = false := by simp; omega
              have e3 : ((k : Int) == 18) = true := by simp; omega
              clear hD
              go_wp2
              go_round
              case rel => exact ⟨k + 1, by omega, by go_num, hU'⟩
              case measure => simp [intOf]; omega
            · have e1 : ((k : Int) == 8) = false := by simp; omega
              have e2 : ((k : Int) == 13) = false := by simp; omega
              have e3 : ((k : Int) == 18) = false := by simp; omega
              have e4 : ((k : Int) == 23) = true := by simp; omega
              clear hD
              go_wp2
              go_round
              case rel => exact ⟨k + 1, by omega, by go_num, hU'⟩
              case measure => simp [intOf]; omega
          · have hF : Hid (¬ Uuid s) := no_uuid hk36 (fun ⟨_, h, _⟩ => hc (h hD))
            have b1 : (((s[k].toNat : Nat) : Int) != 45) = true := by simp; omega
            clear hU hc
            rcases hD with hD | hD | hD | hD
            · have e1 : ((k : Int) == 8) = true := by simp; omega
              clear hD
              go_wp2
              go_ret
              exact ⟨rfl, ans_no hF.out⟩
            · have e1 : ((k : Int) == 8) = false := by simp; omega
              have e2 : ((k : Int) == 13) = true := by simp; omega
              clear hD
              go_wp2
              go_ret
              exact ⟨rfl, ans_no hF.out⟩
            · have e1 : ((k : Int) == 8) = false := by simp; omega
              have e2 : ((k : Int) == 13) = false := by simp; omega
              have e3 : ((k : Int) == 18) = true := by simp; omega
              clear hD
              go_wp2
              go_ret
              exact ⟨rfl, ans_no hF.out⟩
            · have e1 : ((k : Int) == 8) = false := by simp; omega
              have e2 : ((k : Int) == 13) = false := by simp; omega
              have e3 : ((k : Int) == 18) = false := by simp; omega
              have e4 : ((k : Int) == 23) = true := by simp; omega
              clear hD
              go_wp2
              go_ret
              exact ⟨rfl, ans_no hF.out⟩
        · have e1 : ((k : Int) == 8) = false := by unfold Dash at hD; simp; omega
          have e2 : ((k : Int) == 13) = false := by unfold Dash at hD; simp; omega
          have e3 : ((k : Int) == 18) = false := by unfold Dash at hD; simp; omega
          have e4 : ((k : Int) == 23) = false := by unfold Dash at hD; simp; omega
          by_cases hc : Hex ((s[k].toNat : Nat) : Int)
          · have hF : Fits s k := ⟨hlt, fun h => absurd h hD, fun _ => hc⟩
            have hU' := hU.step hF
            clear hU hF hD
            go_wp2_with (go_at_call 17; refine (hex_yes _ _ hc).mono ?_; rintro e w1 ⟨rfl, rfl⟩)
            go_round
            case rel => exact ⟨k + 1, by omega, by go_num, hU'⟩
            case measure => simp [intOf]; omega
          · have hF : Hid (¬ Uuid s) := no_uuid hk36 (fun ⟨_, _, h⟩ => hc (h hD))
            clear hU hD
            go_wp2_with (go_at_call 17; refine (hex_no _ _ hc).mono ?_; rintro e w1 ⟨rfl, rfl⟩)
            go_ret
            exact ⟨rfl, ans_no hF.out⟩
      · have hU2 : Hid (Uuid s) := ⟨H36.out, fun i hi => hU i (by have := H36.out; omega)⟩
        clear hU
        go_wp2
        go_ret
        exact ⟨rfl, ans_yes hU2.out⟩
  · have hb : ((s.size : Int) != 36) = true := by simp; omega
    have hF : Hid (¬ Uuid s) := fun h => h36 h.1
    clear h36
    go_enter Try.func10, Try.ntmps10
    go_wp2
    go_ret
    exact ⟨rfl, ans_no hF.out⟩

end Go.Proofs.Qxb6602504a
