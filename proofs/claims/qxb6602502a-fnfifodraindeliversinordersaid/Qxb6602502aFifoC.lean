/-
  The walks of 'fifoOrder.next' (20), 'ZZFifoNext' (17), 'zzB1SameBytes' (12).
-/
import Derived.Test.Qxb6602502aFifoB
namespace Go.Proofs.Qxb6602502a
open Go.RowKit

/-- The world behind 'next' on a queue that holds a message. -/
def nextW (w : World) (p r o m : Nat) (s : Int) (a : Option Addr) (l c : Nat) (ad : Addr) : World :=
  ((((w.setCell ⟨r, o, none⟩ (.int .i64 0)).setCell ⟨r, o + 1, none⟩ (.slice none 0 0)).setCell ⟨p, 0, none⟩ (.slice (some ad) m m)).alloc (.cells #[.int .i64 s, .slice a l c] 37)).alloc (.cells #[.int .i64 s, .slice a l c] 37)

set_option maxHeartbeats 800000 in
theorem next_some (p r o m : Nat) (s : Int) (a : Option Addr) (l c : Nat) (w : World) (hm : m ≤ 1048576) (hp : w.cell? ⟨p, 0, none⟩ = some (.slice (some ⟨r, o, none⟩) (m + 1) (m + 1))) (hpf : w.frozen? ⟨p, 0, none⟩ = false)
    (h0 : w.cell? ⟨r, o, none⟩ = some (.int .i64 s)) (h1 : w.cell? ⟨r, o + 1, none⟩ = some (.slice a l c)) (f0 : w.frozen? ⟨r, o, none⟩ = false) (f1 : w.frozen? ⟨r, o + 1, none⟩ = false) (hne : r ≠ p) :
    Calls Try.prog 20 #[.pointer (some ⟨p, 0, none⟩)] w fun e w' => e = .returned (.tuple #[.agg #[.int .i64 s, .slice a l c], .bool true]) ∧ ∃ ad, (0 < m → ad = ⟨r, o + 2, none⟩) ∧ w' = nextW w p r o m s a l c ad := by
  have hlp : p < w.heap.size := World.block_lt_of_cell? _ _ hp
  have hlr : r < w.heap.size := World.block_lt_of_cell? _ _ h0
  have hi0 : (0 : Int) < (m : Int) + 1 := by omega
  go_enter Try.func20, Try.ntmps20
  go_wp2
  · have hm0 : m = 0 := by assumption
    subst hm0
    refine bodyPost_ret (v := .tuple #[.agg #[.int .i64 s, .slice a l c], .bool true]) ?_ rfl ⟨rfl, ⟨r, o, none⟩, rfl⟩
    simp [results, Try.results20, go_sem]
  · refine bodyPost_ret (v := .tuple #[.agg #[.int .i64 s, .slice a l c], .bool true]) ?_ rfl ⟨rfl, ⟨r, o + 2, none⟩, fun _ => rfl, rfl⟩
    simp [results, Try.results20, go_sem]

theorem next_none (p : Nat) (q : Option Addr) (cap : Nat) (w : World) (hp : w.cell? ⟨p, 0, none⟩ = some (.slice q 0 cap)) :
    Calls Try.prog 20 #[.pointer (some ⟨p, 0, none⟩)] w fun e w' => e = .returned (.tuple #[.agg #[.int .i64 0, .slice none 0 0], .bool false]) ∧ w' = w.alloc (.cells #[.int .i64 0, .slice none 0 0] 37) := by
  have hlp : p < w.heap.size := World.block_lt_of_cell? _ _ hp
  go_enter Try.func20, Try.ntmps20
  go_wp2
  refine bodyPost_ret (v := .tuple #[.agg #[.int .i64 0, .slice none 0 0], .bool false]) ?_ rfl ⟨rfl, ?_⟩
  · simp [results, Try.results20, go_sem]
  · rfl

theorem zznext_none (q : Option Addr) (cap : Nat) (w : World) :
    Calls Try.prog 17 #[.slice q 0 cap] w fun e w' => e = .returned (.tuple #[.agg #[.int .i64 0, .slice none 0 0], .bool false, .slice q 0 cap]) ∧ Below w.heap.size w w' := by
  have hc := next_none (w.heap.size + 1) q cap ((w.alloc (.cells #[.int .i64 0, .slice none 0 0] 37)).alloc (.cells #[.slice q 0 cap] 49)) (by simp)
  go_enter Try.func17, Try.ntmps17
  go_wp2_with (go_at_call 20; refine hc.mono ?_; rintro e w1 ⟨rfl, rfl⟩)
  go_region
  go_wp2
  refine bodyPost_ret (v := .tuple #[.agg #[.int .i64 0, .slice none 0 0], .bool false, .slice q 0 cap]) ?_ rfl ⟨rfl, ?_⟩
  · simp [results, Try.results17, go_sem]
  · exact (((((Below.refl _ _).alloc (Nat.le_refl _) _).alloc (by simp) _).alloc (by simp; omega) _).alloc (by simp; omega) _).drew

set_option maxHeartbeats 800000 in
theorem zznext_some (r o m : Nat) (s : Int) (a : Option Addr) (l c : Nat) (w : World) (hm : m ≤ 1048576)
    (h0 : w.cell? ⟨r, o, none⟩ = some (.int .i64 s)) (h1 : w.cell? ⟨r, o + 1, none⟩ = some (.slice a l c)) (f0 : w.frozen? ⟨r, o, none⟩ = false) (f1 : w.frozen? ⟨r, o + 1, none⟩ = false) :
    Calls Try.prog 17 #[.slice (some ⟨r, o, none⟩) (m + 1) (m + 1)] w fun e w' => ∃ ad, e = .returned (.tuple #[.agg #[.int .i64 s, .slice a l c], .bool true, .slice (some ad) m m]) ∧ (0 < m → ad = ⟨r, o + 2, none⟩) ∧
      Below w.heap.size ((w.setCell ⟨r, o, none⟩ (.int .i64 0)).setCell ⟨r, o + 1, none⟩ (.slice none 0 0)) w' := by
  have hlr : r < w.heap.size := World.block_lt_of_cell? _ _ h0
  have hc := next_some (w.heap.size + 1) r o m s a l c ((w.alloc (.cells #[.int .i64 0, .slice none 0 0] 37)).alloc (.cells #[.slice (some ⟨r, o, none⟩) (m + 1) (m + 1)] 49)) hm (by simp) (by simp) (by go_simp) (by go_simp) (by go_simp) (by go_simp) (by omega)
  go_enter Try.func17, Try.ntmps17
  go_wp2_with (go_at_call 20; refine hc.mono ?_; rintro e w1 ⟨rfl, ad, had, rfl⟩; unfold nextW; clear hc)
  go_region
  go_wp2
  refine bodyPost_ret (v := .tuple #[.agg #[.int .i64 s, .slice a l c], .bool true, .slice (some ad) m m]) ?_ rfl ⟨ad, rfl, had, ?_⟩
  · simp [results, Try.results17, go_sem]
  · exact ((((((Below.refl _ _).alloc (by simp) _).alloc (by simp) _).alloc (by simp; omega) _).alloc (by simp; omega) _).alloc (by simp; omega) _).drew

set_option maxHeartbeats 800000 in
theorem same_any (a : Option Addr) (n : Nat) (Z : Nat → Int) (w : World) (hn : n ≤ 1048576) (hd : Data w a n Z) :
    Calls Try.prog 12 #[.slice a n n, .slice a n n] w fun e w' => e = .returned (.bool true) ∧ ∃ q, w' = w.drewN q := by
  have q22 : ∀ (w : World) (a : Option Addr) (n c n' c' : Nat), (binOp .eql 22 (.slice a n c) (.slice none n' c')).run Try.prog w = .ok (.bool a.isNone) w := fun w a n c n' c' => Lib.run_eql_slice_nil w _ _ a n c n' c' Try.underlying22
  go_enter Try.func12, Try.ntmps12
  go_wp2
  go_loopw [5] (fun i wr => ∃ k : Nat, k ≤ n ∧ i = .int .i64 k ∧ ∃ q, wr = w.drewN q) (fun i _ => n - (intOf i).toNat)
  case atStart => exact ⟨0, Nat.zero_le _, rfl, 0, rfl⟩
  case round =>
    obtain ⟨k, hk, rfl, q, rfl⟩ := hrel
    by_cases hlt : k < n
    · obtain ⟨g, rfl, hc⟩ := hd.at hlt
      have hi0 : (0 : Int) ≤ (k : Int) := by omega
      have hi1 : (k : Int) < (n : Int) := by omega
      clear hd
      go_wp2_with fail
      go_quiet (fail)
      go_wp2
      go_roundw
      case rel => exact ⟨k + 1, by omega, by go_num, _, rfl⟩
      case measure => simp [intOf]; omega
    · have : k = n := by omega
      subst this
      clear hd
      go_wp2
      go_ret
      exact ⟨rfl, q, rfl⟩

end Go.Proofs.Qxb6602502a
