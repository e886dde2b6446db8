/-
  The walks of 'zzB1CloneInts' (14) and 'zzB1CloneDatas' (15).
-/
import Derived.Test.Qxb6602502aHand
namespace Go.Proofs.Qxb6602502a
open Go.RowKit

theorem info3 : (Try.prog.info? 3).map (fun i => (i.zero, i.size, i.bytes)) = some (some (.int .i64 0), 1, 8) := by kernel_rfl
theorem info22 : (Try.prog.info? 22).map (fun i => (i.zero, i.size, i.bytes)) = some (some (.slice none 0 0), 1, 24) := by kernel_rfl

/-- A slice of ints that came in. -/
def CameI (w : World) (a : Option Addr) (n cap : Nat) (S : Nat → Int) : Prop :=
  (a = none ∧ n = 0 ∧ cap = 0) ∨ ∃ b off spot, a = some ⟨b, off, spot⟩ ∧ (0 < n → spot = none) ∧ ∀ i, i < n → w.cell? ⟨b, off + i, none⟩ = some (.int .i64 (S i))

/-- .. of the call's own. -/
def Ints (w : World) (a : Option Addr) (n : Nat) (S : Nat → Int) : Prop :=
  (a = none ∧ n = 0) ∨ ∃ g, a = some ⟨g, 0, none⟩ ∧ w.rowIs g 3 n (fun i => .int .i64 (S i))

theorem Ints.below {w w' : World} {a : Option Addr} {n : Nat} {S : Nat → Int} (h : Ints w a n S) (hb : Below w.heap.size w w') : Ints w' a n S := by
  rcases h with h | ⟨g, rfl, h⟩
  · exact .inl h
  · exact .inr ⟨g, rfl, h.of_block (hb.block g h.lt)⟩

theorem cloneI_nil (w : World) : Calls Try.prog 14 #[.slice none 0 0] w fun e w' => e = .returned (.slice none 0 0) ∧ w' = w := by
  have q29 : ∀ (w : World) (a : Option Addr) (n c n' c' : Nat), (binOp .eql 29 (.slice a n c) (.slice none n' c')).run Try.prog w = .ok (.bool a.isNone) w := fun w a n c n' c' => Lib.run_eql_slice_nil w _ _ a n c n' c' Try.underlying29
  go_enter Try.func14, Try.ntmps14
  go_wp2
  go_ret
  exact ⟨rfl, rfl⟩

set_option maxHeartbeats 800000 in
theorem cloneI_at (b off : Nat) (spot : Option Nat) (n cap : Nat) (Z : Nat → Int) (w : World) (hn : n ≤ 1048576) (hsp : 0 < n → spot = none)
    (hc : ∀ i, i < n → w.cell? ⟨b, off + i, none⟩ = some (.int .i64 (Z i))) :
    Calls Try.prog 14 #[.slice (some ⟨b, off, spot⟩) n cap] w fun e w' => e = .returned (.slice (some ⟨w.heap.size, 0, none⟩) n n) ∧ Below w.heap.size w w' ∧ w'.heap.size = w.heap.size + 1 ∧
      w'.rowIs w.heap.size 3 n (fun i => .int .i64 (Z i)) := by
  have q29 : ∀ (w : World) (a : Option Addr) (n c n' c' : Nat), (binOp .eql 29 (.slice a n c) (.slice none n' c')).run Try.prog w = .ok (.bool a.isNone) w := fun w a n c n' c' => Lib.run_eql_slice_nil w _ _ a n c n' c' Try.underlying29
  have hmk := run_make_row' (P := Try.prog) 29 3 (.int .i64 0) 8 Try.underlying29 info3 rfl .i64 .i64 n (by omega) (by omega)
  go_enter Try.func14, Try.ntmps14
  go_wp2
  go_loopw [4] (fun i wr => ∃ k : Nat, k ≤ n ∧ i = .int .i64 k ∧ Below w.heap.size w wr ∧ wr.heap.size = w.heap.size + 1 ∧ wr.rowIs w.heap.size 3 n (part k (fun i => .int .i64 (Z i)) (.int .i64 0)))
    (fun i _ => n - (intOf i).toNat)
  case atStart => exact ⟨0, Nat.zero_le _, rfl, (Below.refl _ _).alloc (Nat.le_refl _) _, by simp, (World.rowIs_made w (.int .i64 0) n 3).congr (fun i _ => by simp [part])⟩
  case round =>
    obtain ⟨k, hk, rfl, hbel, hsz, hrow⟩ := hrel
    by_cases hlt : k < n
    · obtain rfl := hsp (by omega)
      have hcb := hc k hlt
      have hlb : b < w.heap.size := World.block_lt_of_cell? _ _ hcb
      have hcx : wr.cell? ⟨b, off + k, none⟩ = some (.int .i64 (Z k)) := (hbel.cell (p := ⟨b, off + k, none⟩) hlb).trans hcb
      have hco := hrow.cell hlt
      have hfo := hrow.frozen k
      have R := rowIs_step hrow
      have R1 := hbel.setCell (p := ⟨w.heap.size, k, none⟩) (Nat.le_refl _) (.int .i64 (Z k))
      have hi0 : (0 : Int) ≤ (k : Int) := by omega
      have hi1 : (k : Int) < (n : Int) := by omega
      clear hc hrow hcb
      go_wp2
      go_roundw
      case rel => exact ⟨k + 1, by omega, by go_num, R1, by simpa using hsz, R⟩
      case measure => simp [intOf]; omega
    · have : k = n := by omega
      subst this
      have R := hrow.congr (g := fun i => .int .i64 (Z i)) (fun i hi => by simp [part, hi])
      clear hrow hc
      go_wp2
      go_ret
      exact ⟨rfl, hbel, hsz, R⟩

theorem cloneI_any (a : Option Addr) (n cap : Nat) (S : Nat → Int) (w : World) (hn : n ≤ 1048576) (h : CameI w a n cap S) :
    Calls Try.prog 14 #[.slice a n cap] w fun e w' => ∃ a', e = .returned (.slice a' n n) ∧ (a' = none ↔ a = none) ∧ Below w.heap.size w w' ∧ Ints w' a' n S := by
  rcases h with ⟨rfl, rfl, rfl⟩ | ⟨b, off, spot, rfl, hsp, hc⟩
  · refine (cloneI_nil w).mono ?_
    rintro e w' ⟨rfl, rfl⟩
    exact ⟨_, rfl, by simp, Below.refl _ _, .inl ⟨rfl, rfl⟩⟩
  · refine (cloneI_at b off spot n cap S w hn hsp hc).mono ?_
    rintro e w' ⟨rfl, hb, _, hr⟩
    exact ⟨_, rfl, by simp, hb, .inr ⟨_, rfl, hr⟩⟩

/-- A slice of byte slices that came in. -/
def CameD (w : World) (a : Option Addr) (n cap : Nat) (A : Nat → Option Addr) (L C : Nat → Nat) (Z : Nat → Nat → Int) : Prop :=
  (a = none ∧ n = 0 ∧ cap = 0) ∨ ∃ b off spot, a = some ⟨b, off, spot⟩ ∧ (0 < n → spot = none) ∧
    ∀ i, i < n → w.cell? ⟨b, off + i, none⟩ = some (.slice (A i) (L i) (C i)) ∧ Came w (A i) (L i) (C i) (Z i)

/-- .. of the call's own. -/
def Datas (w : World) (a : Option Addr) (n : Nat) (A : Nat → Option Addr) (L : Nat → Nat) (Z : Nat → Nat → Int) : Prop :=
  (a = none ∧ n = 0) ∨ ∃ g, a = some ⟨g, 0, none⟩ ∧ w.rowIs g 22 n (fun i => .slice (A i) (L i) (L i)) ∧ ∀ i, i < n → Data w (A i) (L i) (Z i)

theorem Datas.below {w w' : World} {a : Option Addr} {n : Nat} {A : Nat → Option Addr} {L : Nat → Nat} {Z : Nat → Nat → Int} (h : Datas w a n A L Z) (hb : Below w.heap.size w w') : Datas w' a n A L Z := by
  rcases h with h | ⟨g, rfl, h, hd⟩
  · exact .inl h
  · exact .inr ⟨g, rfl, h.of_block (hb.block g h.lt), fun i hi => (hd i hi).below hb⟩

theorem Came.below {w w' : World} {a : Option Addr} {n cap : Nat} {Z : Nat → Int} (h : Came w a n cap Z) (hb : Below w.heap.size w w') : Came w' a n cap Z := by
  rcases h with h | ⟨b, off, spot, rfl, hs, hc⟩
  · exact .inl h
  · exact .inr ⟨b, off, spot, rfl, hs, fun i hi => (hb.cell (p := ⟨b, off + i, none⟩) (World.block_lt_of_cell? _ _ (hc i hi))).trans (hc i hi)⟩

/-- The round of 'zzB1CloneDatas'. -/
def RelD (w wr : World) (n k : Nat) (L : Nat → Nat) (Z : Nat → Nat → Int) : Prop :=
  Below w.heap.size w wr ∧ ∃ A' : Nat → Option Addr, wr.rowIs w.heap.size 22 n (part k (fun i => .slice (A' i) (L i) (L i)) (.slice none 0 0)) ∧ ∀ i, i < k → Data wr (A' i) (L i) (Z i)

theorem relD_step {w wr w1 : World} {n k : Nat} {L : Nat → Nat} {Z : Nat → Nat → Int} (h : RelD w wr n k L Z) (hk : k < n) {a' : Option Addr} (hb : Below wr.heap.size wr w1) (hd : Data w1 a' (L k) (Z k)) :
    RelD w (w1.setCell ⟨w.heap.size, k, none⟩ (.slice a' (L k) (L k))) n (k + 1) L Z := by
  obtain ⟨hB, A', hrow, hD⟩ := h
  have hlt := hrow.lt
  have hset : ∀ {a : Option Addr} {l : Nat} {z : Nat → Int}, Data w1 a l z → (∀ g, a = some ⟨g, 0, none⟩ → g ≠ w.heap.size) → Data (w1.setCell ⟨w.heap.size, k, none⟩ (.slice a' (L k) (L k))) a l z := by
    intro a l z h hne
    rcases h with h | ⟨g, rfl, h⟩
    · exact .inl h
    · exact .inr ⟨g, rfl, h.setOther (hne g rfl) _⟩
  have hty : ∀ {a : Option Addr} {l : Nat} {z : Nat → Int}, Data w1 a l z → ∀ g, a = some ⟨g, 0, none⟩ → g ≠ w.heap.size := by
    intro a l z h g hg e
    subst e
    rcases h with ⟨rfl, _⟩ | ⟨g', rfl, c, h1, _, _⟩
    · cases hg
    · cases hg
      obtain ⟨c', h2, _, _⟩ := hrow.of_block (hb.block _ hlt)
      rw [h2] at h1
      simp at h1
  refine ⟨(hB.trans (hb.mono (by omega))).setCell (Nat.le_refl _) _, fun i => if i = k then a' else A' i, ?_, fun i hi => ?_⟩
  · have h1 : w1.rowIs w.heap.size 22 n (part k (fun i => .slice (if i = k then a' else A' i) (L i) (L i)) (.slice none 0 0)) := by
      refine (hrow.of_block (hb.block _ hlt)).congr (fun i _ => ?_)
      unfold part
      by_cases h : i < k
      · simp [h, show i ≠ k from by omega]
      · simp [h]
    have h2 := rowIs_step h1
    simpa using h2
  · by_cases e : i = k
    · subst e
      simp only [if_true]
      exact hset hd (hty hd)
    · simp only [if_neg e]
      have h3 := (hD i (by omega)).below hb
      exact hset h3 (hty h3)

theorem cloneD_nil (w : World) : Calls Try.prog 15 #[.slice none 0 0] w fun e w' => e = .returned (.slice none 0 0) ∧ w' = w := by
  have q30 : ∀ (w : World) (a : Option Addr) (n c n' c' : Nat), (binOp .eql 30 (.slice a n c) (.slice none n' c')).run Try.prog w = .ok (.bool a.isNone) w := fun w a n c n' c' => Lib.run_eql_slice_nil w _ _ a n c n' c' Try.underlying30
  go_enter Try.func15, Try.ntmps15
  go_wp2
  go_ret
  exact ⟨rfl, rfl⟩

set_option maxHeartbeats 800000 in
theorem cloneD_at (b off : Nat) (spot : Option Nat) (n cap : Nat) (A : Nat → Option Addr) (L C : Nat → Nat) (Z : Nat → Nat → Int) (w : World) (hn : n ≤ 1048576) (hL : ∀ i, i < n → L i ≤ 1048576) (hsp : 0 < n → spot = none)
    (hc : ∀ i, i < n → w.cell? ⟨b, off + i, none⟩ = some (.slice (A i) (L i) (C i)) ∧ Came w (A i) (L i) (C i) (Z i)) :
    Calls Try.prog 15 #[.slice (some ⟨b, off, spot⟩) n cap] w fun e w' => e = .returned (.slice (some ⟨w.heap.size, 0, none⟩) n n) ∧ RelD w w' n n L Z := by
  have q30 : ∀ (w : World) (a : Option Addr) (n c n' c' : Nat), (binOp .eql 30 (.slice a n c) (.slice none n' c')).run Try.prog w = .ok (.bool a.isNone) w := fun w a n c n' c' => Lib.run_eql_slice_nil w _ _ a n c n' c' Try.underlying30
  have hmk := run_make_row' (P := Try.prog) 30 22 (.slice none 0 0) 24 Try.underlying30 info22 rfl .i64 .i64 n (by omega) (by omega)
  go_enter Try.func15, Try.ntmps15
  go_wp2
  go_loopw [4] (fun i wr => ∃ k : Nat, k ≤ n ∧ i = .int .i64 k ∧ RelD w wr n k L Z) (fun i _ => n - (intOf i).toNat)
  case atStart => exact ⟨0, Nat.zero_le _, rfl, (Below.refl _ _).alloc (Nat.le_refl _) _, fun _ => none, (World.rowIs_made w (.slice none 0 0) n 22).congr (fun i _ => by simp [part]), fun i hi => absurd hi (Nat.not_lt_zero _)⟩
  case round =>
    obtain ⟨k, hk, rfl, hR⟩ := hrel
    by_cases hlt : k < n
    · obtain rfl := hsp (by omega)
      obtain ⟨hcb, hcame⟩ := hc k hlt
      have hbel := hR.1
      have hlb : b < w.heap.size := World.block_lt_of_cell? _ _ hcb
      have hcx : wr.cell? ⟨b, off + k, none⟩ = some (.slice (A k) (L k) (C k)) := (hbel.cell (p := ⟨b, off + k, none⟩) hlb).trans hcb
      have hcl := clone_any (A k) (L k) (C k) (Z k) wr (hL k hlt) (hcame.below hbel)
      have hi0 : (0 : Int) ≤ (k : Int) := by omega
      have hi1 : (k : Int) < (n : Int) := by omega
      clear hc hcb hcame hL
      go_wp2_with (go_at_call 8; refine hcl.mono ?_; rintro e w1 ⟨a', rfl, hb1, hd1⟩; obtain ⟨hst1, hst2⟩ := (show w1.cell? ⟨w.heap.size, k, none⟩ = some (.slice none 0 0) ∧ w1.frozen? ⟨w.heap.size, k, none⟩ = false from by obtain ⟨_, A', hrow, _⟩ := hR; have h3 := hrow.of_block (hb1.block _ hrow.lt); exact ⟨by rw [h3.cell hlt]; simp [part], h3.frozen k⟩); have R1 := relD_step hR hlt hb1 hd1)
      go_roundw
      case rel => exact ⟨k + 1, by omega, by go_num, R1⟩
      case measure => simp [intOf]; omega
    · have : k = n := by omega
      subst this
      clear hc hL
      go_wp2
      go_ret
      exact ⟨rfl, hR⟩

theorem cloneD_any (a : Option Addr) (n cap : Nat) (A : Nat → Option Addr) (L C : Nat → Nat) (Z : Nat → Nat → Int) (w : World) (hn : n ≤ 1048576) (hL : ∀ i, i < n → L i ≤ 1048576) (h : CameD w a n cap A L C Z) :
    Calls Try.prog 15 #[.slice a n cap] w fun e w' => ∃ a' A', e = .returned (.slice a' n n) ∧ Below w.heap.size w w' ∧ Datas w' a' n A' L Z := by
  rcases h with ⟨rfl, rfl, rfl⟩ | ⟨b, off, spot, rfl, hsp, hc⟩
  · refine (cloneD_nil w).mono ?_
    rintro e w' ⟨rfl, rfl⟩
    exact ⟨_, fun _ => none, rfl, Below.refl _ _, .inl ⟨rfl, rfl⟩⟩
  · refine (cloneD_at b off spot n cap A L C Z w hn hL hsp hc).mono ?_
    rintro e w' ⟨rfl, hb, A', hrow, hd⟩
    exact ⟨_, A', rfl, hb, .inr ⟨_, rfl, hrow.congr (fun i hi => by simp [part, hi]), hd⟩⟩

end Go.Proofs.Qxb6602502a
