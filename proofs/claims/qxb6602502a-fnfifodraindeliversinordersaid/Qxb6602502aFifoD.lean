/-
  The walks of 'zzBytes_FnFifoNextPopsFront' (13) and 'zzBytes_FnFifoDrainDeliversInOrder' (18).
-/
import Derived.Test.Qxb6602502aFifoC
namespace Go.Proofs.Qxb6602502a
open Go.RowKit

/-- What the bound's answer tells. -/
def Bnd (e : Ending) (ns nd : Nat) (L : Nat → Nat) : Prop := ∃ t, e = .returned (.bool t) ∧ (t = true → ns ≤ 1048576 ∧ nd ≤ 1048576 ∧ ∀ i, i < nd → L i ≤ 1048576)
theorem bnd_no {ns nd : Nat} {L : Nat → Nat} : Bnd (.returned (.bool false)) ns nd L := ⟨_, rfl, fun h => by cases h⟩
theorem bnd_yes {ns nd : Nat} {L : Nat → Nat} (h1 : ns ≤ 1048576) (h2 : nd ≤ 1048576) (h3 : ∀ i, i < nd → L i ≤ 1048576) : Bnd (.returned (.bool true)) ns nd L := ⟨_, rfl, fun _ => ⟨h1, h2, h3⟩⟩

set_option maxHeartbeats 800000 in
theorem bytes13 (a : Option Addr) (ns c1 : Nat) (b : Option Addr) (nd c2 : Nat) (A : Nat → Option Addr) (L C : Nat → Nat) (Z : Nat → Nat → Int) (w : World) (hL : ∀ i, i < nd → L i ≤ maxLen) (hs : ns ≤ maxLen) (hd : nd ≤ maxLen) (h : CameD w b nd c2 A L C Z) :
    Calls Try.prog 13 #[.slice a ns c1, .slice b nd c2] w fun e w' => w = w' ∧ Bnd e ns nd L := by
  unfold maxLen at hL hs hd
  by_cases h1 : 1048576 < ns
  · go_enter Try.func13, Try.ntmps13
    go_wp2
    go_ret
    exact ⟨rfl, bnd_no⟩
  by_cases h2 : 1048576 < nd
  · go_enter Try.func13, Try.ntmps13
    go_wp2
    go_ret
    exact ⟨rfl, bnd_no⟩
  by_cases h3 : 1048576 < ns + nd
  · have h3' : (1048576 : Int) < (ns : Int) + (nd : Int) := by omega
    go_enter Try.func13, Try.ntmps13
    go_wp2
    go_ret
    exact ⟨rfl, bnd_no⟩
  have b1 : decide ((1048576 : Int) < (ns : Int)) = false := by simp; omega
  have b2 : decide ((1048576 : Int) < (nd : Int)) = false := by simp; omega
  have b3 : decide ((1048576 : Int) < (ns : Int) + (nd : Int)) = false := by simp; omega
  go_enter Try.func13, Try.ntmps13
  go_wp2
  go_loop [5, 6] (fun t i => ∃ (k : Nat) (v : Int), k ≤ nd ∧ i = .int .i64 k ∧ t = .int .i64 v ∧ 0 ≤ v ∧ v ≤ 1048576 ∧ Hid (∀ j, j < k → L j ≤ 1048576)) (fun _ i => nd - (intOf i).toNat)
  case atStart => exact ⟨0, _, Nat.zero_le _, rfl, rfl, by omega, by omega, fun j hj => absurd hj (Nat.not_lt_zero _)⟩
  case round =>
    obtain ⟨k, v, hk, rfl, rfl, hv0, hv1, HL⟩ := hrel
    by_cases hlt : k < nd
    · rcases h with ⟨_, rfl, _⟩ | ⟨g, off, spot, rfl, hsp, hc⟩
      · omega
      obtain rfl := hsp (by omega)
      have hcell := (hc k hlt).1
      have hi0 : (0 : Int) ≤ (k : Int) := by omega
      have hi1 : (k : Int) < (nd : Int) := by omega
      have hLk := hL k hlt
      clear hc hL
      by_cases h4 : 1048576 < L k
      · go_wp2
        go_ret
        exact ⟨rfl, bnd_no⟩
      by_cases h5 : 1048576 < v + (L k : Int)
      · go_wp2
        go_ret
        exact ⟨rfl, bnd_no⟩
      · go_wp2
        go_round
        case rel => exact ⟨k + 1, v + (L k : Int), by omega, by go_num, rfl, by omega, by omega, fun j hj => by rcases Nat.lt_succ_iff_lt_or_eq.1 hj with hh | rfl; exact HL.out j hh; omega⟩
        case measure => simp [intOf]; omega
    · obtain rfl : k = nd := by omega
      clear h hL
      go_wp2
      go_ret
      exact ⟨rfl, bnd_yes (by omega) (by omega) HL.out⟩


set_option maxHeartbeats 800000 in
theorem bytes18 (a : Option Addr) (ns c1 : Nat) (b : Option Addr) (nd c2 : Nat) (A : Nat → Option Addr) (L C : Nat → Nat) (Z : Nat → Nat → Int) (w : World) (hL : ∀ i, i < nd → L i ≤ maxLen) (hs : ns ≤ maxLen) (hd : nd ≤ maxLen) (h : CameD w b nd c2 A L C Z) :
    Calls Try.prog 18 #[.slice a ns c1, .slice b nd c2] w fun e w' => w = w' ∧ Bnd e ns nd L := by
  unfold maxLen at hL hs hd
  by_cases h1 : 1048576 < ns
  · go_enter Try.func18, Try.ntmps18
    go_wp2
    go_ret
    exact ⟨rfl, bnd_no⟩
  by_cases h2 : 1048576 < nd
  · go_enter Try.func18, Try.ntmps18
    go_wp2
    go_ret
    exact ⟨rfl, bnd_no⟩
  by_cases h3 : 1048576 < ns + nd
  · have h3' : (1048576 : Int) < (ns : Int) + (nd : Int) := by omega
    go_enter Try.func18, Try.ntmps18
    go_wp2
    go_ret
    exact ⟨rfl, bnd_no⟩
  have b1 : decide ((1048576 : Int) < (ns : Int)) = false := by simp; omega
  have b2 : decide ((1048576 : Int) < (nd : Int)) = false := by simp; omega
  have b3 : decide ((1048576 : Int) < (ns : Int) + (nd : Int)) = false := by simp; omega
  go_enter Try.func18, Try.ntmps18
  go_wp2
  go_loop [5, 6] (fun t i => ∃ (k : Nat) (v : Int), k ≤ nd ∧ i = .int .i64 k ∧ t = .int .i64 v ∧ 0 ≤ v ∧ v ≤ 1048576 ∧ Hid (∀ j, j < k → L j ≤ 1048576)) (fun _ i => nd - (intOf i).toNat)
  case atStart => exact ⟨0, _, Nat.zero_le _, rfl, rfl, by omega, by omega, fun j hj => absurd hj (Nat.not_lt_zero _)⟩
  case round =>
    obtain ⟨k, v, hk, rfl, rfl, hv0, hv1, HL⟩ := hrel
    by_cases hlt : k < nd
    · rcases h with ⟨_, rfl, _⟩ | ⟨g, off, spot, rfl, hsp, hc⟩
      · omega
      obtain rfl := hsp (by omega)
      have hcell := (hc k hlt).1
      have hi0 : (0 : Int) ≤ (k : Int) := by omega
      have hi1 : (k : Int) < (nd : Int) := by omega
      have hLk := hL k hlt
      clear hc hL
      by_cases h4 : 1048576 < L k
      · go_wp2
        go_ret
        exact ⟨rfl, bnd_no⟩
      by_cases h5 : 1048576 < v + (L k : Int)
      · go_wp2
        go_ret
        exact ⟨rfl, bnd_no⟩
      · go_wp2
        go_round
        case rel => exact ⟨k + 1, v + (L k : Int), by omega, by go_num, rfl, by omega, by omega, fun j hj => by rcases Nat.lt_succ_iff_lt_or_eq.1 hj with hh | rfl; exact HL.out j hh; omega⟩
        case measure => simp [intOf]; omega
    · obtain rfl : k = nd := by omega
      clear h hL
      go_wp2
      go_ret
      exact ⟨rfl, bnd_yes (by omega) (by omega) HL.out⟩


end Go.Proofs.Qxb6602502a
