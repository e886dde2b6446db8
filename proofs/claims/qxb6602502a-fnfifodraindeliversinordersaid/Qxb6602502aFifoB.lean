/-
  The walk of 'zzB1Messages' (16).
-/
import Derived.Test.Qxb6602502aFifoA
import Derived.Deep.RegionHeld3
namespace Go.Proofs.Qxb6602502a
open Go.RowKit

theorem info37 : (Try.prog.info? 37).map (fun i => (i.zero, i.size, i.bytes)) = some (some (.agg #[.int .i64 0, .slice none 0 0]), 2, 32) := by kernel_rfl

/-- The cells of a row of zero messages; of the messages. -/
def zf : Nat → Value := fun j => if j % 2 = 0 then .int .i64 0 else .slice none 0 0
def mf (S : Nat → Int) (A : Nat → Option Addr) (L : Nat → Nat) : Nat → Value := fun j => if j % 2 = 0 then .int .i64 (S (j / 2)) else .slice (A (j / 2)) (L (j / 2)) (L (j / 2))
def mix (k : Nat) (f g : Nat → Value) : Nat → Value := fun j => if j < k then f j else g j

theorem mf_even (S : Nat → Int) (A : Nat → Option Addr) (L : Nat → Nat) (k : Nat) : mf S A L (k * 2) = .int .i64 (S k) := by
  unfold mf; rw [if_pos (by omega), show k * 2 / 2 = k from by omega]
theorem mf_odd (S : Nat → Int) (A : Nat → Option Addr) (L : Nat → Nat) (k : Nat) : mf S A L (k * 2 + 1) = .slice (A k) (L k) (L k) := by
  unfold mf; rw [if_neg (by omega), show (k * 2 + 1) / 2 = k from by omega]
theorem zf_even (k : Nat) : zf (k * 2) = .int .i64 0 := by unfold zf; rw [if_pos (by omega)]
theorem zf_odd (k : Nat) : zf (k * 2 + 1) = .slice none 0 0 := by unfold zf; rw [if_neg (by omega)]

theorem mix_step2 {w : World} {b t n k : Nat} {f g : Nat → Value} (h : w.rowIs b t n (mix k f g)) : ((w.setCell ⟨b, k, none⟩ (f k)).setCell ⟨b, k + 1, none⟩ (f (k + 1))).rowIs b t n (mix (k + 2) f g) := by
  refine ((h.set k (f k)).set (k + 1) (f (k + 1))).congr (fun i _ => ?_)
  unfold mix
  by_cases e : i = k + 1
  · subst e; simp
  · by_cases e' : i = k
    · subst e'; simp
    · simp only [if_neg e, if_neg e']
      by_cases hlt : i < k
      · rw [if_pos hlt, if_pos (by omega)]
      · rw [if_neg hlt, if_neg (by omega)]

theorem make_msgs (n : Nat) (hn : n ≤ 1048576) (w : World) : (Instr.makeSlice 34 (.int .i64 (n : Int)) (.int .i64 (n : Int))).run Try.prog w =
    .ok (.slice (some ⟨w.heap.size, 0, none⟩) n n) (w.alloc (.cells (madeCells #[.int .i64 0, .slice none 0 0] (n * 2)) 37)) := by
  obtain ⟨i, hi, hzz⟩ := Option.map_eq_some_iff.1 info37
  simp only [Prod.mk.injEq] at hzz
  obtain ⟨hz, hs, hb⟩ := hzz
  have := run_make (P := Try.prog) w 34 37 i _ Try.underlying34 hi hz .i64 .i64 n n (by omega) (by omega) (by rw [hb]; omega) (by omega)
  rw [hs] at this
  simpa [Value.cells] using this

theorem made_msgs (w : World) (n : Nat) : (w.alloc (.cells (madeCells #[.int .i64 0, .slice none 0 0] (n * 2)) 37)).rowIs w.heap.size 37 (n * 2) zf := by
  refine ⟨_, Deep.blk_alloc_new _ _, size_madeCells _ _, fun i hi => ?_⟩
  unfold madeCells zf
  rcases Nat.mod_two_eq_zero_or_one i with h | h <;> simp [hi, h]

/-- The queue: nil, or a block of its own. -/
def Queue (w : World) (a : Option Addr) (n : Nat) (f : Nat → Value) : Prop :=
  (a = none ∧ n = 0) ∨ ∃ g, a = some ⟨g, 0, none⟩ ∧ w.rowIs g 37 (n * 2) f

theorem msgs_nil (b : Option Addr) (nd cap : Nat) (w : World) : Calls Try.prog 16 #[.slice none 0 0, .slice b nd cap] w fun e w' => e = .returned (.slice none 0 0) ∧ w' = w := by
  have q29 : ∀ (w : World) (a : Option Addr) (n c n' c' : Nat), (binOp .eql 29 (.slice a n c) (.slice none n' c')).run Try.prog w = .ok (.bool a.isNone) w := fun w a n c n' c' => Lib.run_eql_slice_nil w _ _ a n c n' c' Try.underlying29
  go_enter Try.func16, Try.ntmps16
  go_wp2
  go_ret
  exact ⟨rfl, rfl⟩

set_option maxHeartbeats 1600000 in
theorem msgs_le (g1 : Nat) (b : Option Addr) (ns nd : Nat) (S : Nat → Int) (A : Nat → Option Addr) (L : Nat → Nat) (w : World) (hn1 : ns ≤ 1048576) (hn2 : nd ≤ 1048576)
    (h1 : w.rowIs g1 3 ns (fun i => .int .i64 (S i))) (h2 : 0 < nd → ∃ g, b = some ⟨g, 0, none⟩ ∧ w.rowIs g 22 nd (fun i => .slice (A i) (L i) (L i))) (hle : ns ≤ nd) :
    Calls Try.prog 16 #[.slice (some ⟨g1, 0, none⟩) ns ns, .slice b nd nd] w fun e w' => e = .returned (.slice (some ⟨w.heap.size, 0, none⟩) ns ns) ∧ Below w.heap.size w w' ∧ w'.rowIs w.heap.size 37 (ns * 2) (mf S A L) := by
  have q29 : ∀ (w : World) (a : Option Addr) (n c n' c' : Nat), (binOp .eql 29 (.slice a n c) (.slice none n' c')).run Try.prog w = .ok (.bool a.isNone) w := fun w a n c n' c' => Lib.run_eql_slice_nil w _ _ a n c n' c' Try.underlying29
  have hmk := make_msgs ns (by omega)
  have hd : decide ((nd : Int) < (ns : Int)) = false := by simp; omega
  go_enter Try.func16, Try.ntmps16
  go_wp2
  go_loopw [7] (fun i wr => ∃ k : Nat, k ≤ ns ∧ i = .int .i64 k ∧ Below w.heap.size w wr ∧ wr.rowIs w.heap.size 37 (ns * 2) (mix (k * 2) (mf S A L) zf)) (fun i _ => ns - (intOf i).toNat)
  case atStart => exact ⟨0, Nat.zero_le _, rfl, (Below.refl _ _).alloc (Nat.le_refl _) _, (made_msgs w ns).congr (fun i _ => by simp [mix])⟩
  case round =>
    obtain ⟨k, hk, rfl, hbel, hrow⟩ := hrel
    by_cases hlt : k < ns
    · obtain ⟨g, rfl, h3⟩ := h2 (by omega)
      have c1 : wr.cell? ⟨g1, k, none⟩ = some (.int .i64 (S k)) := (hbel.cell (p := ⟨g1, k, none⟩) h1.lt).trans (h1.cell (by omega))
      have c2 : wr.cell? ⟨g, k, none⟩ = some (.slice (A k) (L k) (L k)) := (hbel.cell (p := ⟨g, k, none⟩) h3.lt).trans (h3.cell (by omega))
      have c3 := hrow.cell (i := k * 2) (by omega)
      have c4 := hrow.cell (i := k * 2 + 1) (by omega)
      have c5 := hrow.frozen (k * 2)
      have c6 := hrow.frozen (k * 2 + 1)
      have hi0 : (0 : Int) ≤ (k : Int) := by omega
      have hi1 : (k : Int) < (ns : Int) := by omega
      have hi2 : (k : Int) < (nd : Int) := by omega
      have R1 := ((hbel.setCell (p := ⟨w.heap.size, k * 2, none⟩) (Nat.le_refl _) (.int .i64 (S k))).setCell (p := ⟨w.heap.size, k * 2 + 1, none⟩) (Nat.le_refl _) (.slice (A k) (L k) (L k))).drew
      have R2 := (mix_step2 hrow).drew
      rw [mf_even, mf_odd] at R2
      clear h1 h2 h3 hrow
      go_wp2_with fail
      go_region
      go_wp2
      go_roundw
      case rel => exact ⟨k + 1, by omega, by go_num, R1, by rw [show (k + 1) * 2 = k * 2 + 2 from by omega]; exact R2⟩
      case measure => simp [intOf]; omega
    · have : k = ns := by omega
      subst this
      have R := hrow.congr (g := mf S A L) (fun i hi => by simp [mix, hi])
      clear h1 h2 hrow
      go_wp2
      go_ret
      exact ⟨rfl, hbel, R⟩

set_option maxHeartbeats 1600000 in
theorem msgs_gt (g1 : Nat) (b : Option Addr) (ns nd : Nat) (S : Nat → Int) (A : Nat → Option Addr) (L : Nat → Nat) (w : World) (hn1 : ns ≤ 1048576) (hn2 : nd ≤ 1048576)
    (h1 : w.rowIs g1 3 ns (fun i => .int .i64 (S i))) (h2 : 0 < nd → ∃ g, b = some ⟨g, 0, none⟩ ∧ w.rowIs g 22 nd (fun i => .slice (A i) (L i) (L i))) (hle : nd < ns) :
    Calls Try.prog 16 #[.slice (some ⟨g1, 0, none⟩) ns ns, .slice b nd nd] w fun e w' => e = .returned (.slice (some ⟨w.heap.size, 0, none⟩) nd nd) ∧ Below w.heap.size w w' ∧ w'.rowIs w.heap.size 37 (nd * 2) (mf S A L) := by
  have q29 : ∀ (w : World) (a : Option Addr) (n c n' c' : Nat), (binOp .eql 29 (.slice a n c) (.slice none n' c')).run Try.prog w = .ok (.bool a.isNone) w := fun w a n c n' c' => Lib.run_eql_slice_nil w _ _ a n c n' c' Try.underlying29
  have hmk := make_msgs nd (by omega)
  have hd : decide ((nd : Int) < (ns : Int)) = true := by simp; omega
  go_enter Try.func16, Try.ntmps16
  go_wp2
  go_loopw [7] (fun i wr => ∃ k : Nat, k ≤ nd ∧ i = .int .i64 k ∧ Below w.heap.size w wr ∧ wr.rowIs w.heap.size 37 (nd * 2) (mix (k * 2) (mf S A L) zf)) (fun i _ => nd - (intOf i).toNat)
  case atStart => exact ⟨0, Nat.zero_le _, rfl, (Below.refl _ _).alloc (Nat.le_refl _) _, (made_msgs w nd).congr (fun i _ => by simp [mix])⟩
  case round =>
    obtain ⟨k, hk, rfl, hbel, hrow⟩ := hrel
    by_cases hlt : k < nd
    · obtain ⟨g, rfl, h3⟩ := h2 (by omega)
      have c1 : wr.cell? ⟨g1, k, none⟩ = some (.int .i64 (S k)) := (hbel.cell (p := ⟨g1, k, none⟩) h1.lt).trans (h1.cell (by omega))
      have c2 : wr.cell? ⟨g, k, none⟩ = some (.slice (A k) (L k) (L k)) := (hbel.cell (p := ⟨g, k, none⟩) h3.lt).trans (h3.cell (by omega))
      have c3 := hrow.cell (i := k * 2) (by omega)
      have c4 := hrow.cell (i := k * 2 + 1) (by omega)
      have c5 := hrow.frozen (k * 2)
      have c6 := hrow.frozen (k * 2 + 1)
      have hi0 : (0 : Int) ≤ (k : Int) := by omega
      have hi1 : (k : Int) < (ns : Int) := by omega
      have hi2 : (k : Int) < (nd : Int) := by omega
      have R1 := ((hbel.setCell (p := ⟨w.heap.size, k * 2, none⟩) (Nat.le_refl _) (.int .i64 (S k))).setCell (p := ⟨w.heap.size, k * 2 + 1, none⟩) (Nat.le_refl _) (.slice (A k) (L k) (L k))).drew
      have R2 := (mix_step2 hrow).drew
      rw [mf_even, mf_odd] at R2
      clear h1 h2 h3 hrow
      go_wp2_with fail
      go_region
      go_wp2
      go_roundw
      case rel => exact ⟨k + 1, by omega, by go_num, R1, by rw [show (k + 1) * 2 = k * 2 + 2 from by omega]; exact R2⟩
      case measure => simp [intOf]; omega
    · have : k = nd := by omega
      subst this
      have R := hrow.congr (g := mf S A L) (fun i hi => by simp [mix, hi])
      clear h1 h2 hrow
      go_wp2
      go_ret
      exact ⟨rfl, hbel, R⟩

theorem msgs_any (a b : Option Addr) (ns nd : Nat) (S : Nat → Int) (A : Nat → Option Addr) (L : Nat → Nat) (Z : Nat → Nat → Int) (w : World) (hn1 : ns ≤ 1048576) (hn2 : nd ≤ 1048576) (h1 : Ints w a ns S) (h2 : Datas w b nd A L Z) :
    Calls Try.prog 16 #[.slice a ns ns, .slice b nd nd] w fun e w' => ∃ r n, e = .returned (.slice r n n) ∧ n ≤ ns ∧ n ≤ nd ∧ Below w.heap.size w w' ∧ (∀ g, r = some ⟨g, 0, none⟩ → w.heap.size ≤ g) ∧ Queue w' r n (mf S A L) := by
  rcases h1 with ⟨rfl, rfl⟩ | ⟨g1, rfl, h1⟩
  · refine (msgs_nil b nd nd w).mono ?_
    rintro e w' ⟨rfl, rfl⟩
    exact ⟨none, 0, rfl, Nat.le_refl _, Nat.zero_le _, Below.refl _ _, (fun g hg => by cases hg), .inl ⟨rfl, rfl⟩⟩
  · have h3 : 0 < nd → ∃ g, b = some ⟨g, 0, none⟩ ∧ w.rowIs g 22 nd (fun i => .slice (A i) (L i) (L i)) := by
      intro h0
      rcases h2 with ⟨_, rfl⟩ | ⟨g, rfl, h, _⟩
      · omega
      · exact ⟨g, rfl, h⟩
    by_cases hle : ns ≤ nd
    · refine (msgs_le g1 b ns nd S A L w hn1 hn2 h1 h3 hle).mono ?_
      rintro e w' ⟨rfl, hb, hr⟩
      exact ⟨_, ns, rfl, Nat.le_refl _, hle, hb, fun g hg => by cases hg; exact Nat.le_refl _, .inr ⟨_, rfl, hr⟩⟩
    · refine (msgs_gt g1 b ns nd S A L w hn1 hn2 h1 h3 (by omega)).mono ?_
      rintro e w' ⟨rfl, hb, hr⟩
      exact ⟨_, nd, rfl, by omega, Nat.le_refl _, hb, fun g hg => by cases hg; exact Nat.le_refl _, .inr ⟨_, rfl, hr⟩⟩

end Go.Proofs.Qxb6602502a
