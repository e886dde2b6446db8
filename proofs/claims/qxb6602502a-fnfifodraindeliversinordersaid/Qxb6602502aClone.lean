/-
  The walk of 'zzB1CloneBytes' (function 8): a copy of a byte slice in one new block.
-/
import Derived.Test.Qxb6602502aRows
import Derived.WalkKit
import Derived.WalkSpells
import Derived.Lib.SliceRun
import Derived.Deep.OwnRows
namespace Go.Proofs.Qxb6602502a
open Go.RowKit

theorem info5 : (Try.prog.info? 5).map (fun i => (i.zero, i.size, i.bytes)) = some (some (.int .u8 0), 1, 1) := by kernel_rfl

/-- A row that is being filled: the first k cells are done. -/
def part (k : Nat) (f : Nat → Value) (z : Value) : Nat → Value := fun j => if j < k then f j else z

theorem rowIs_step {w : World} {b t n k : Nat} {f : Nat → Value} {z : Value} (h : w.rowIs b t n (part k f z)) : (w.setCell ⟨b, k, none⟩ (f k)).rowIs b t n (part (k + 1) f z) := by
  refine (h.set k (f k)).congr (fun i _ => ?_)
  unfold part
  by_cases e : i = k
  · subst e; simp
  · rw [if_neg e]
    by_cases hlt : i < k
    · rw [if_pos hlt, if_pos (by omega)]
    · rw [if_neg hlt, if_neg (by omega)]

theorem clone_nil (w : World) : Calls Try.prog 8 #[.slice none 0 0] w fun e w' => e = .returned (.slice none 0 0) ∧ w' = w := by
  have q22 : ∀ (w : World) (a : Option Addr) (n c n' c' : Nat), (binOp .eql 22 (.slice a n c) (.slice none n' c')).run Try.prog w = .ok (.bool a.isNone) w := fun w a n c n' c' => Lib.run_eql_slice_nil w _ _ a n c n' c' Try.underlying22
  go_enter Try.func8, Try.ntmps8
  go_wp2
  go_ret
  exact ⟨rfl, rfl⟩

set_option maxHeartbeats 800000 in
theorem clone_at (b off : Nat) (spot : Option Nat) (n cap : Nat) (Z : Nat → Int) (w : World) (hn : n ≤ 1048576) (hsp : 0 < n → spot = none)
    (hc : ∀ i, i < n → w.cell? ⟨b, off + i, none⟩ = some (.int .u8 (Z i))) :
    Calls Try.prog 8 #[.slice (some ⟨b, off, spot⟩) n cap] w fun e w' => e = .returned (.slice (some ⟨w.heap.size, 0, none⟩) n n) ∧ Below w.heap.size w w' ∧ w'.heap.size = w.heap.size + 1 ∧
      w'.rowIs w.heap.size 5 n (fun i => .int .u8 (Z i)) := by
  have q22 : ∀ (w : World) (a : Option Addr) (n c n' c' : Nat), (binOp .eql 22 (.slice a n c) (.slice none n' c')).run Try.prog w = .ok (.bool a.isNone) w := fun w a n c n' c' => Lib.run_eql_slice_nil w _ _ a n c n' c' Try.underlying22
  have hmk := run_make_row' (P := Try.prog) 22 5 (.int .u8 0) 1 Try.underlying22 info5 rfl .i64 .i64 n (by omega) (by omega)
  go_enter Try.func8, Try.ntmps8
  go_wp2
  go_loopw [4] (fun i wr => ∃ k : Nat, k ≤ n ∧ i = .int .i64 k ∧ Below w.heap.size w wr ∧ wr.heap.size = w.heap.size + 1 ∧ wr.rowIs w.heap.size 5 n (part k (fun i => .int .u8 (Z i)) (.int .u8 0)))
    (fun i _ => n - (intOf i).toNat)
  case atStart => exact ⟨0, Nat.zero_le _, rfl, (Below.refl _ _).alloc (Nat.le_refl _) _, by simp, (World.rowIs_made w (.int .u8 0) n 5).congr (fun i _ => by simp [part])⟩
  case round =>
    obtain ⟨k, hk, rfl, hbel, hsz, hrow⟩ := hrel
    by_cases hlt : k < n
    · obtain rfl := hsp (by omega)
      have hcb := hc k hlt
      have hlb : b < w.heap.size := World.block_lt_of_cell? _ _ hcb
      have hcx : wr.cell? ⟨b, off + k, none⟩ = some (.int .u8 (Z k)) := (hbel.cell (p := ⟨b, off + k, none⟩) hlb).trans hcb
      have hco := hrow.cell hlt
      have hfo := hrow.frozen k
      have R := rowIs_step hrow
      have R1 := hbel.setCell (p := ⟨w.heap.size, k, none⟩) (Nat.le_refl _) (.int .u8 (Z k))
      have hi0 : (0 : Int) ≤ (k : Int) := by omega
      have hi1 : (k : Int) < (n : Int) := by omega
      clear hc hrow hcb
      go_wp2
      go_roundw
      case rel => exact ⟨k + 1, by omega, by go_num, R1, by simpa using hsz, R⟩
      case measure => simp [intOf]; omega
    · have : k = n := by omega
      subst this
      have R := hrow.congr (g := fun i => .int .u8 (Z i)) (fun i hi => by simp [part, hi])
      clear hrow hc
      go_wp2
      go_ret
      exact ⟨rfl, hbel, hsz, R⟩

end Go.Proofs.Qxb6602502a
