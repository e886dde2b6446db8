/-
  The walks of 'ZZHandoverFrame' (9), 'zzB1HandoverHeader' (10), 'zzBytes_FnHandoverFrameExact' (7), and of the law (3).
-/
import Derived.Test.Qxb6602502aFrame
import Derived.Deep.QuietTactic
import Derived.BigQuiet
import Derived.WalkSmall
namespace Go.Proofs.Qxb6602502a
open Go.RowKit

theorem frame_any (last non : Bool) (a : Option Addr) (n : Nat) (Z : Nat → Int) (w : World) (hn : n ≤ 1048576) (hd : Data w a n Z) :
    Calls Try.prog 19 #[.agg #[.bool last, .bool non, .slice a n n]] w fun e w' => e = .returned (.agg #[.int .u8 26, .slice (some ⟨w.heap.size + 1 + 1, 0, none⟩) (1 + n) (1 + n)]) ∧ Below w.heap.size w w' ∧
      w'.rowIs (w.heap.size + 1 + 1) 5 (1 + n) (bodyF (hdrOf last non) Z) := by
  cases last <;> cases non
  · exact frame_ff a n Z w hn hd
  · exact frame_ft a n Z w hn hd
  · exact frame_tf a n Z w hn hd
  · exact frame_tt a n Z w hn hd

theorem header_any (last non : Bool) (w : World) : Calls Try.prog 10 #[.bool last, .bool non] w fun e w' => e = .returned (.int .u8 (hdrOf last non)) ∧ w' = w := by
  cases last <;> cases non
  all_goals
    go_enter Try.func10, Try.ntmps10
    go_wp2
    go_ret
    exact ⟨rfl, rfl⟩

theorem small_yes (last non : Bool) (a : Option Addr) (n cap : Nat) (w : World) (hn : n ≤ 1048576) : Calls Try.prog 7 #[.bool last, .bool non, .slice a n cap] w fun e w' => e = .returned (.bool true) ∧ w = w' := by
  go_enter Try.func7, Try.ntmps7
  go_wp2
  go_ret
  exact ⟨rfl, rfl⟩

theorem small_no (last non : Bool) (a : Option Addr) (n cap : Nat) (w : World) (hn : 1048576 < n) : Calls Try.prog 7 #[.bool last, .bool non, .slice a n cap] w fun e w' => e = .returned (.bool false) ∧ w' = w := by
  go_enter Try.func7, Try.ntmps7
  go_wp2
  go_ret
  exact ⟨rfl, rfl⟩

theorem rowIs_drewN {w : World} {b t n : Nat} {f : Nat → Value} (h : w.rowIs b t n f) : ∀ q, (w.drewN q).rowIs b t n f
  | 0 => h
  | q + 1 => rowIs_drewN h q

theorem zzframe_any (last non : Bool) (a : Option Addr) (n : Nat) (Z : Nat → Int) (w : World) (hn : n ≤ 1048576) (hd : Data w a n Z) :
    Calls Try.prog 9 #[.bool last, .bool non, .slice a n n] w fun e w' => e = .returned (.tuple #[.int .u8 26, .slice (some ⟨w.heap.size + 1 + 1, 0, none⟩) (1 + n) (1 + n)]) ∧ Below w.heap.size w w' ∧
      w'.rowIs (w.heap.size + 1 + 1) 5 (1 + n) (bodyF (hdrOf last non) Z) := by
  have hc := frame_any last non a n Z w hn hd
  go_enter Try.func9, Try.ntmps9
  go_wp2_with (go_at_call 19; refine hc.mono ?_; rintro e w1 ⟨rfl, hb1, hr1⟩)
  have hb2 := hb1.alloc hb1.size (Obj.cells #[Value.int IntKind.u8 26, Value.slice (some { block := w.heap.size + 1 + 1, off := 0 }) (1 + n) (1 + n)] 41)
  have hr2 := hr1.alloc (Obj.cells #[Value.int IntKind.u8 26, Value.slice (some { block := w.heap.size + 1 + 1, off := 0 }) (1 + n) (1 + n)] 41)
  clear hc hb1 hr1
  go_quiet (fail)
  go_wp2
  go_ret2
  exact ⟨rfl, below_drewN hb2 _, rowIs_drewN hr2 _⟩

theorem Data.drewN {w : World} {a : Option Addr} {n : Nat} {Z : Nat → Int} (h : Data w a n Z) (q : Nat) : Data (w.drewN q) a n Z := h.below (below_drewN (Below.refl _ _) q)

theorem Data.at {w : World} {a : Option Addr} {n : Nat} {Z : Nat → Int} (h : Data w a n Z) {k : Nat} (hk : k < n) : ∃ g, a = some ⟨g, 0, none⟩ ∧ w.cell? ⟨g, k, none⟩ = some (.int .u8 (Z k)) := by
  rcases h with ⟨_, rfl⟩ | ⟨g, rfl, h⟩
  · omega
  · exact ⟨g, rfl, h.cell hk⟩

/-- What the clone is told of the argument. -/
def Came (w : World) (a : Option Addr) (n cap : Nat) (Z : Nat → Int) : Prop :=
  (a = none ∧ n = 0 ∧ cap = 0) ∨ ∃ b off spot, a = some ⟨b, off, spot⟩ ∧ (0 < n → spot = none) ∧ ∀ i, i < n → w.cell? ⟨b, off + i, none⟩ = some (.int .u8 (Z i))

theorem clone_any (a : Option Addr) (n cap : Nat) (Z : Nat → Int) (w : World) (hn : n ≤ 1048576) (h : Came w a n cap Z) :
    Calls Try.prog 8 #[.slice a n cap] w fun e w' => ∃ a', e = .returned (.slice a' n n) ∧ Below w.heap.size w w' ∧ Data w' a' n Z := by
  rcases h with ⟨rfl, rfl, rfl⟩ | ⟨b, off, spot, rfl, hsp, hc⟩
  · refine (clone_nil w).mono ?_
    rintro e w' ⟨rfl, rfl⟩
    exact ⟨_, rfl, Below.refl _ _, .inl ⟨rfl, rfl⟩⟩
  · refine (clone_at b off spot n cap Z w hn hsp hc).mono ?_
    rintro e w' ⟨rfl, hb, _, hr⟩
    exact ⟨_, rfl, hb, .inr ⟨_, rfl, hr⟩⟩

theorem law_big (last non : Bool) (a : Option Addr) (n cap : Nat) (w : World) (hn : 1048576 < n) :
    Calls Try.prog 3 #[.bool last, .bool non, .slice a n cap] w fun e w' => e = .returned (.bool true) ∧ Below w.heap.size w w' := by
  go_enter Try.func3, Try.ntmps3
  go_wp2_with (go_at_call 7; refine (small_no last non a n cap w hn).mono ?_; rintro e w1 ⟨rfl, rfl⟩)
  go_ret
  exact ⟨rfl, Below.refl _ _⟩

set_option maxHeartbeats 800000 in
theorem law_small (last non : Bool) (a : Option Addr) (n cap : Nat) (Z : Nat → Int) (w : World) (hn : n ≤ 1048576) (h : Came w a n cap Z) :
    Calls Try.prog 3 #[.bool last, .bool non, .slice a n cap] w fun e w' => e = .returned (.bool true) ∧ Below w.heap.size w w' := by
  have hng : decide ((1048576 : Int) < (n : Int)) = false := by simp; omega
  go_enter Try.func3, Try.ntmps3
  go_wp2_with (first | (go_at_call 7; refine (small_yes last non a n cap w hn).mono ?_; rintro e w1 ⟨rfl, rfl⟩) | (go_at_call 8; refine (clone_any a n cap Z _ hn h).mono ?_; rintro e w1 ⟨a', rfl, hb1, hd1⟩) | (go_at_call 9; refine (zzframe_any last non a' n Z _ hn hd1).mono ?_; rintro e w2 ⟨rfl, hb2, hr2⟩))
  have hb12 : Below w.heap.size w w2 := hb1.trans (hb2.mono hb1.size)
  have hd2 := hd1.below hb2
  have hh : w2.cell? ⟨w1.heap.size + 1 + 1, 0, none⟩ = some (.int .u8 (hdrOf last non)) := hr2.cell (i := 0) (by omega)
  have hi0 : (0 : Int) < 1 + (n : Int) := by omega
  clear hb1 hd1 hb2
  go_quiet ((go_at_call 10; exact Calls.quiet_of_same (header_any last non _)))
  clear hh
  have hb3 := below_drewN hb12 nq
  have hd3 := hd2.drewN nq
  have hr3 := rowIs_drewN hr2 nq
  generalize w2.drewN nq = w3 at hb3 hd3 hr3 ⊢
  clear hb12 hd2 hr2
  generalize w1.heap.size + 1 + 1 = g at hr3 ⊢
  go_wp2
  go_loopw [9] (fun i wr => ∃ k : Nat, k ≤ n ∧ i = .int .i64 k ∧ Below w.heap.size w wr ∧ Data wr a' n Z ∧ wr.rowIs g 5 (1 + n) (bodyF (hdrOf last non) Z)) (fun i _ => n - (intOf i).toNat)
  case atStart => exact ⟨0, Nat.zero_le _, rfl, hb3, hd3, hr3⟩
  case round =>
    clear hb3 hd3 hr3
    obtain ⟨k, hk, rfl, hb, hd, hr⟩ := hrel
    by_cases hlt : k < n
    · obtain ⟨g', rfl, hc⟩ := hd.at hlt
      have h1 : wr.cell? ⟨g, 1 + k, none⟩ = some (.int .u8 (Z k)) := by
        rw [hr.cell (by omega)]
        simp [bodyF]
      have hl1 : (k : Int) < (n : Int) := by omega
      have hl2 : (1 : Int) + (k : Int) < 1 + (n : Int) := by omega
      have hl3 : (0 : Int) ≤ 1 + (k : Int) := by omega
      have ht : ((1 : Int) + (k : Int)).toNat = 1 + k := by omega
      go_wp2_with fail
      go_quiet (fail)
      have hb3 := below_drewN hb nq
      have hd3 := hd.drewN nq
      have hr3 := rowIs_drewN hr nq
      clear h1 hc ht
      go_wp2
      go_roundw
      case rel => exact ⟨k + 1, by omega, by go_num, hb3, hd3, hr3⟩
      case measure => simp [intOf]; omega
    · have : k = n := by omega
      subst this
      go_wp2
      go_ret
      exact ⟨rfl, hb⟩

end Go.Proofs.Qxb6602502a
