/-
  The walk of 'zzUUIDGrammar' (11) and of the law (4).
-/
import Derived.Test.Qxb6602504aLaw
namespace Go.Proofs.Qxb6602504a
open Go.RowKit

/-- Where group g begins (its dash counted in). -/
def At (g p : Nat) : Prop := (g = 0 ∧ p ≤ 0 ∧ 0 ≤ p) ∨ (g = 1 ∧ p ≤ 8 ∧ 8 ≤ p) ∨ (g = 2 ∧ p ≤ 13 ∧ 13 ≤ p) ∨ (g = 3 ∧ p ≤ 18 ∧ 18 ≤ p) ∨ (g = 4 ∧ p ≤ 23 ∧ 23 ≤ p) ∨ (g = 5 ∧ p ≤ 36 ∧ 36 ≤ p)

theorem glen0 (w : World) : Calls Try.prog 18 #[.int .i64 0] w fun e w' => e = .returned (.int .i64 8) ∧ w = w' := by
  go_enter Try.func18, Try.ntmps18
  go_wp2
  go_ret
  exact ⟨rfl, rfl⟩

theorem glen1 (w : World) : Calls Try.prog 18 #[.int .i64 1] w fun e w' => e = .returned (.int .i64 4) ∧ w = w' := by
  go_enter Try.func18, Try.ntmps18
  go_wp2
  go_ret
  exact ⟨rfl, rfl⟩

theorem glen2 (w : World) : Calls Try.prog 18 #[.int .i64 2] w fun e w' => e = .returned (.int .i64 4) ∧ w = w' := by
  go_enter Try.func18, Try.ntmps18
  go_wp2
  go_ret
  exact ⟨rfl, rfl⟩

theorem glen3 (w : World) : Calls Try.prog 18 #[.int .i64 3] w fun e w' => e = .returned (.int .i64 4) ∧ w = w' := by
  go_enter Try.func18, Try.ntmps18
  go_wp2
  go_ret
  exact ⟨rfl, rfl⟩

theorem glen4 (w : World) : Calls Try.prog 18 #[.int .i64 4] w fun e w' => e = .returned (.int .i64 12) ∧ w = w' := by
  go_enter Try.func18, Try.ntmps18
  go_wp2
  go_ret
  exact ⟨rfl, rfl⟩

set_option maxHeartbeats 1600000 in
theorem grammar_any (s : ByteArray) (w : World) (_hs : s.size ≤ 1048576) : Calls Try.prog 11 #[.string s] w fun e w' => w = w' ∧ Ans e (Uuid s) := by
  go_enter Try.func11, Try.ntmps11
  go_wp2
  go_loop [3, 4] (fun q i => ∃ g p : Nat, i = .int .i64 g ∧ q = .int .i64 p ∧ Upto s p ∧ At g p) (fun _ i => 5 - (intOf i).toNat)
  case atStart => exact ⟨0, 0, rfl, rfl, Upto.zero s, by unfold At; omega⟩
  case round =>
    obtain ⟨g, p, rfl, rfl, hU, hA⟩ := hrel
    rcases hA with ⟨rfl, hp1, hp2⟩ | ⟨rfl, hp1, hp2⟩ | ⟨rfl, hp1, hp2⟩ | ⟨rfl, hp1, hp2⟩ | ⟨rfl, hp1, hp2⟩ | ⟨rfl, hp1, hp2⟩
    · go_wp2_with (go_at_call 18; refine (glen0 _).mono ?_; rintro e w1 ⟨rfl, rfl⟩)
      go_loop [3, 6] (fun q i => ∃ k p : Nat, k ≤ 8 ∧ p ≤ 0 + k ∧ 0 + k ≤ p ∧ i = .int .i64 k ∧ q = .int .i64 p ∧ Upto s p) (fun _ i => 8 - (intOf i).toNat)
      case atStart => exact ⟨0, p, Nat.zero_le _, by omega, by omega, rfl, by go_num, hU⟩
      case round =>
        clear hU
        obtain ⟨k, p', hk, hp3, hp4, rfl, rfl, hU⟩ := hrel
        by_cases hlt : k < 8
        · have hD : ¬ Dash p' := by unfold Dash; omega
          by_cases hin : p' < s.size
          · have b2 : decide ((s.size : Int) ≤ (p' : Int)) = false := by simp; omega
            by_cases hc : Hex ((s[p'].toNat : Nat) : Int)
            · have hU' := hU.step ⟨hin, fun h => absurd h hD, fun _ => hc⟩
              clear hU hD
              go_wp2_with (go_at_call 15; refine (hexi_yes _ _ hc).mono ?_; rintro e w1 ⟨rfl, d, rfl, hd⟩)
              go_round
              case rel => exact ⟨k + 1, p' + 1, by omega, by omega, by omega, by go_num, by go_num, hU'⟩
              case measure => simp [intOf]; omega
            · have hF : Hid (¬ Uuid s) := no_uuid (by omega) (fun ⟨_, _, h⟩ => hc (h hD))
              clear hU hD
              go_wp2_with (go_at_call 15; refine (hexi_no _ _ hc).mono ?_; rintro e w1 ⟨rfl, rfl⟩)
              go_ret
              exact ⟨rfl, ans_no hF.out⟩
          · have b2 : decide ((s.size : Int) ≤ (p' : Int)) = true := by simp; omega
            have hF : Hid (¬ Uuid s) := no_uuid (k := p') (by omega) (fun ⟨h, _⟩ => hin h)
            clear hU hD
            go_wp2
            go_ret
            exact ⟨rfl, ans_no hF.out⟩
        · go_wp2
          go_round
          case rel => exact ⟨1, p', by go_num, rfl, hU, by unfold At; omega⟩
          case measure => simp [intOf]
    · have hD : Dash p := by unfold Dash; omega
      by_cases hin : p < s.size
      · have b2 : decide ((s.size : Int) ≤ (p : Int)) = false := by simp; omega
        by_cases hc : ((s[p].toNat : Nat) : Int) = 45
        · have hU := hU.step ⟨hin, fun _ => hc, fun h => absurd hD h⟩
          have b1 : (((s[p].toNat : Nat) : Int) != 45) = false := by simp; omega
          clear hc hD
          go_wp2_with (go_at_call 18; refine (glen1 _).mono ?_; rintro e w1 ⟨rfl, rfl⟩)
          go_loop [3, 6] (fun q i => ∃ k p : Nat, k ≤ 4 ∧ p ≤ 9 + k ∧ 9 + k ≤ p ∧ i = .int .i64 k ∧ q = .int .i64 p ∧ Upto s p) (fun _ i => 4 - (intOf i).toNat)
          case atStart => exact ⟨0, p + 1, Nat.zero_le _, by omega, by omega, rfl, by go_num, hU⟩
          case round =>
            clear hU
            obtain ⟨k, p', hk, hp3, hp4, rfl, rfl, hU⟩ := hrel
            by_cases hlt : k < 4
            · have hD : ¬ Dash p' := by unfold Dash; omega
              by_cases hin : p' < s.size
              · have b2 : decide ((s.size : Int) ≤ (p' : Int)) = false := by simp; omega
                by_cases hc : Hex ((s[p'].toNat : Nat) : Int)
                · have hU' := hU.step ⟨hin, fun h => absurd h hD, fun _ => hc⟩
                  clear hU hD
                  go_wp2_with (go_at_call 15; refine (hexi_yes _ _ hc).mono ?_; rintro e w1 ⟨rfl, d, rfl, hd⟩)
                  go_round
                  case rel => exact ⟨k + 1, p' + 1, by omega, by omega, by omega, by go_num, by go_num, hU'⟩
                  case measure => simp [intOf]; omega
                · have hF : Hid (¬ Uuid s) := no_uuid (by omega) (fun ⟨_, _, h⟩ => hc (h hD))
                  clear hU hD
                  go_wp2_with (go_at_call 15; refine (hexi_no _ _ hc).mono ?_; rintro e w1 ⟨rfl, rfl⟩)
                  go_ret
                  exact ⟨rfl, ans_no hF.out⟩
              · have b2 : decide ((s.size : Int) ≤ (p' : Int)) = true := by simp; omega
                have hF : Hid (¬ Uuid s) := no_uuid (k := p') (by omega) (fun ⟨h, _⟩ => hin h)
                clear hU hD
                go_wp2
                go_ret
                exact ⟨rfl, ans_no hF.out⟩
            · go_wp2
              go_round
              case rel => exact ⟨2, p', by go_num, rfl, hU, by unfold At; omega⟩
              case measure => simp [intOf]
        · have hF : Hid (¬ Uuid s) := no_uuid (k := p) (by omega) (fun ⟨_, h, _⟩ => hc (h hD))
          have b1 : (((s[p].toNat : Nat) : Int) != 45) = true := by simp; omega
          clear hU hc hD
          go_wp2
          go_ret
          exact ⟨rfl, ans_no hF.out⟩
      · have b2 : decide ((s.size : Int) ≤ (p : Int)) = true := by simp; omega
        have hF : Hid (¬ Uuid s) := no_uuid (k := p) (by omega) (fun ⟨h, _⟩ => hin h)
        clear hU hD
        go_wp2
        go_ret
        exact ⟨rfl, ans_no hF.out⟩
    · have hD : Dash p := by unfold Dash; omega
      by_cases hin : p < s.size
      · have b2 : decide ((s.size : Int) ≤ (p : Int)) = false := by simp; omega
        by_cases hc : ((s[p].toNat : Nat) : Int) = 45
        · have hU := hU.step ⟨hin, fun _ => hc, fun h => absurd hD h⟩
          have b1 : (((s[p].toNat : Nat) : Int) != 45) = false := by simp; omega
          clear hc hD
          go_wp2_with (go_at_call 18; refine (glen2 _).mono ?_; rintro e w1 ⟨rfl, rfl⟩)
          go_loop [3, 6] (fun q i => ∃ k p : Nat, k ≤ 4 ∧ p ≤ 14 + k ∧ 14 + k ≤ p ∧ i = .int .i64 k ∧ q = .int .i64 p ∧ Upto s p) (fun _ i => 4 - (intOf i).toNat)
          case atStart => exact ⟨0, p + 1, Nat.zero_le _, by omega, by omega, rfl, by go_num, hU⟩
          case round =>
            clear hU
            obtain ⟨k, p', hk, hp3, hp4, rfl, rfl, hU⟩ := hrel
            by_cases hlt : k < 4
            · have hD : ¬ Dash p' := by unfold Dash; omega
              by_cases hin : p' < s.size
              · have b2 : decide ((s.size : Int) ≤ (p' : Int)) = false := by simp; omega
                by_cases hc : Hex ((s[p'].toNat : Nat) : Int)
                · have hU' := hU.step ⟨hin, fun h => absurd h hD, fun _ => hc⟩
                  clear hU hD
                  go_wp2_with (go_at_call 15; refine (hexi_yes _ _ hc).mono ?_; rintro e w1 ⟨rfl, d, rfl, hd⟩)
                  go_round
                  case rel => exact ⟨k + 1, p' + 1, by omega, by omega, by omega, by go_num, by go_num, hU'⟩
                  case measure => simp [intOf]; omega
                · have hF : Hid (¬ Uuid s) := no_uuid (by omega) (fun ⟨_, _, h⟩ => hc (h hD))
                  clear hU hD
                  go_wp2_with (go_at_call 15; refine (hexi_no _ _ hc).mono ?_; rintro e w1 ⟨rfl, rfl⟩)
                  go_ret
                  exact ⟨rfl, ans_no hF.out⟩
              · have b2 : decide ((s.size : Int) ≤ (p' : Int)) = true := by simp; omega
                have hF : Hid (¬ Uuid s) := no_uuid (k := p') (by omega) (fun ⟨h, _⟩ => hin h)
                clear hU hD
                go_wp2
                go_ret
                exact ⟨rfl, ans_no hF.out⟩
            · go_wp2
              go_round
              case rel => exact ⟨3, p', by go_num, rfl, hU, by unfold At; omega⟩
              case measure => simp [intOf]
        · have hF : Hid (¬ Uuid s) := no_uuid (k := p) (by omega) (fun ⟨_, h, _⟩ => hc (h hD))
          have b1 : (((s[p].toNat : Nat) : Int) != 45) = true := by simp; omega
          clear hU hc hD
          go_wp2
          go_ret
          exact ⟨rfl, ans_no hF.out⟩
      · have b2 : decide ((s.size : Int) ≤ (p : Int)) = true := by simp; omega
        have hF : Hid (¬ Uuid s) := no_uuid (k := p) (by omega) (fun ⟨h, _⟩ => hin h)
        clear hU hD
        go_wp2
        go_ret
        exact ⟨rfl, ans_no hF.out⟩
    · have hD : Dash p := by unfold Dash; omega
      by_cases hin : p < s.size
      · have b2 : decide ((s.size : Int) ≤ (p : Int)) = false := by simp; omega
        by_cases hc : ((s[p].toNat : Nat) : Int) = 45
        · have hU := hU.step ⟨hin, fun _ => hc, fun h => absurd hD h⟩
          have b1 : (((s[p].toNat : Nat) : Int) != 45) = false := by simp; omega
          clear hc hD
          go_wp2_with (go_at_call 18; refine (glen3 _).mono ?_; rintro e w1 ⟨rfl, rfl⟩)
          go_loop [3, 6] (fun q i => ∃ k p : Nat, k ≤ 4 ∧ p ≤ 19 + k ∧ 19 + k ≤ p ∧ i = .int .i64 k ∧ q = .int .i64 p ∧ Upto s p) (fun _ i => 4 - (intOf i).toNat)
          case atStart => exact ⟨0, p + 1, Nat.zero_le _, by omega, by omega, rfl, by go_num, hU⟩
          case round =>
            clear hU
            obtain ⟨k, p', hk, hp3, hp4, rfl, rfl, hU⟩ := hrel
            by_cases hlt : k < 4
            · have hD : ¬ Dash p' := by unfold Dash; omega
              by_cases hin : p' < s.size
              · have b2 : decide ((s.size : Int) ≤ (p' : Int)) = false := by simp; omega
                by_cases hc : Hex ((s[p'].toNat : Nat) : Int)
                · have hU' := hU.step ⟨hin, fun h => absurd h hD, fun _ => hc⟩
                  clear hU hD
                  go_wp2_with (go_at_call 15; refine (hexi_yes _ _ hc).mono ?_; rintro e w1 ⟨rfl, d, rfl, hd⟩)
                  go_round
                  case rel => exact ⟨k + 1, p' + 1, by omega, by omega, by omega, by go_num, by go_num, hU'⟩
                  case measure => simp [intOf]; omega
                · have hF : Hid (¬ Uuid s) := no_uuid (by omega) (fun ⟨_, _, h⟩ => hc (h hD))
                  clear hU hD
                  go_wp2_with (go_at_call 15; refine (hexi_no _ _ hc).mono ?_; rintro e w1 ⟨rfl, rfl⟩)
                  go_ret
                  exact ⟨rfl, ans_no hF.out⟩
              · have b2 : decide ((s.size : Int) ≤ (p' : Int)) = true := by simp; omega
                have hF : Hid (¬ Uuid s) := no_uuid (k := p') (by omega) (fun ⟨h, _⟩ => hin h)
                clear hU hD
                go_wp2
                go_ret
                exact ⟨rfl, ans_no hF.out⟩
            · go_wp2
              go_round
              case rel => exact ⟨4, p', by go_num, rfl, hU, by unfold At; omega⟩
              case measure => simp [intOf]
        · have hF : Hid (¬ Uuid s) := no_uuid (k := p) (by omega) (fun ⟨_, h, _⟩ => hc (h hD))
          have b1 : (((s[p].toNat : Nat) : Int) != 45) = true := by simp; omega
          clear hU hc hD
          go_wp2
          go_ret
          exact ⟨rfl, ans_no hF.out⟩
      · have b2 : decide ((s.size : Int) ≤ (p : Int)) = true := by simp; omega
        have hF : Hid (¬ Uuid s) := no_uuid (k := p) (by omega) (fun ⟨h, _⟩ => hin h)
        clear hU hD
        go_wp2
        go_ret
        exact ⟨rfl, ans_no hF.out⟩
    · have hD : Dash p := by unfold Dash; omega
      by_cases hin : p < s.size
      · have b2 : decide ((s.size : Int) ≤ (p : Int)) = false := by simp; omega
        by_cases hc : ((s[p].toNat : Nat) : Int) = 45
        · have hU := hU.step ⟨hin, fun _ => hc, fun h => absurd hD h⟩
          have b1 : (((s[p].toNat : Nat) : Int) != 45) = false := by simp; omega
          clear hc hD
          go_wp2_with (go_at_call 18; refine (glen4 _).mono ?_; rintro e w1 ⟨rfl, rfl⟩)
          go_loop [3, 6] (fun q i => ∃ k p : Nat, k ≤ 12 ∧ p ≤ 24 + k ∧ 24 + k ≤ p ∧ i = .int .i64 k ∧ q = .int .i64 p ∧ Upto s p) (fun _ i => 12 - (intOf i).toNat)
          case atStart => exact ⟨0, p + 1, Nat.zero_le _, by omega, by omega, rfl, by go_num, hU⟩
          case round =>
            clear hU
            obtain ⟨k, p', hk, hp3, hp4, rfl, rfl, hU⟩ := hrel
            by_cases hlt : k < 12
            · have hD : ¬ Dash p' := by unfold Dash; omega
              by_cases hin : p' < s.size
              · have b2 : decide ((s.size : Int) ≤ (p' : Int)) = false := by simp; omega
                by_cases hc : Hex ((s[p'].toNat : Nat) : Int)
                · have hU' := hU.step ⟨hin, fun h => absurd h hD, fun _ => hc⟩
                  clear hU hD
                  go_wp2_with (go_at_call 15; refine (hexi_yes _ _ hc).mono ?_; rintro e w1 ⟨rfl, d, rfl, hd⟩)
                  go_round
                  case rel => exact ⟨k + 1, p' + 1, by omega, by omega, by omega, by go_num, by go_num, hU'⟩
                  case measure => simp [intOf]; omega
                · have hF : Hid (¬ Uuid s) := no_uuid (by omega) (fun ⟨_, _, h⟩ => hc (h hD))
                  clear hU hD
                  go_wp2_with (go_at_call 15; refine (hexi_no _ _ hc).mono ?_; rintro e w1 ⟨rfl, rfl⟩)
                  go_ret
                  exact ⟨rfl, ans_no hF.out⟩
              · have b2 : decide ((s.size : Int) ≤ (p' : Int)) = true := by simp; omega
                have hF : Hid (¬ Uuid s) := no_uuid (k := p') (by omega) (fun ⟨h, _⟩ => hin h)
                clear hU hD
                go_wp2
                go_ret
                exact ⟨rfl, ans_no hF.out⟩
            · go_wp2
              go_round
              case rel => exact ⟨5, p', by go_num, rfl, hU, by unfold At; omega⟩
              case measure => simp [intOf]
        · have hF : Hid (¬ Uuid s) := no_uuid (k := p) (by omega) (fun ⟨_, h, _⟩ => hc (h hD))
          have b1 : (((s[p].toNat : Nat) : Int) != 45) = true := by simp; omega
          clear hU hc hD
          go_wp2
          go_ret
          exact ⟨rfl, ans_no hF.out⟩
      · have b2 : decide ((s.size : Int) ≤ (p : Int)) = true := by simp; omega
        have hF : Hid (¬ Uuid s) := no_uuid (k := p) (by omega) (fun ⟨h, _⟩ => hin h)
        clear hU hD
        go_wp2
        go_ret
        exact ⟨rfl, ans_no hF.out⟩
    · by_cases h36 : s.size = 36
      · have hF : Hid (Uuid s) := ⟨h36, fun i hi => hU i (by omega)⟩
        have b : ((p : Int) == (s.size : Int)) = true := by simp; omega
        clear hU h36
        go_wp2
        go_ret
        exact ⟨rfl, ans_yes hF.out⟩
      · have hF : Hid (¬ Uuid s) := fun h => h36 h.1
        have b : ((p : Int) == (s.size : Int)) = false := by simp; omega
        clear hU h36
        go_wp2
        go_ret
        exact ⟨rfl, ans_no hF.out⟩

end Go.Proofs.Qxb6602504a
