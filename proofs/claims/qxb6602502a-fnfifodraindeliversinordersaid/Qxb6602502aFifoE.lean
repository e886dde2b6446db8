/-
  The walk of the law 'FnFifoNextPopsFront' (5).
-/
import Derived.Test.Qxb6602502aFifoD
namespace Go.Proofs.Qxb6602502a
open Go.RowKit

theorem CameD.below {w w' : World} {a : Option Addr} {n cap : Nat} {A : Nat → Option Addr} {L C : Nat → Nat} {Z : Nat → Nat → Int} (h : CameD w a n cap A L C Z) (hb : Below w.heap.size w w') : CameD w' a n cap A L C Z := by
  rcases h with h | ⟨b, off, spot, rfl, hs, hc⟩
  · exact .inl h
  · exact .inr ⟨b, off, spot, rfl, hs, fun i hi => ⟨(hb.cell (p := ⟨b, off + i, none⟩) (World.block_lt_of_cell? _ _ (hc i hi).1)).trans (hc i hi).1, (hc i hi).2.below hb⟩⟩

theorem Ints.at {w : World} {a : Option Addr} {n : Nat} {S : Nat → Int} (h : Ints w a n S) {k : Nat} (hk : k < n) : ∃ g, a = some ⟨g, 0, none⟩ ∧ w.rowIs g 3 n (fun i => .int .i64 (S i)) := by
  rcases h with ⟨_, rfl⟩ | h
  · omega
  · exact h

theorem Datas.at {w : World} {a : Option Addr} {n : Nat} {A : Nat → Option Addr} {L : Nat → Nat} {Z : Nat → Nat → Int} (h : Datas w a n A L Z) {k : Nat} (hk : k < n) :
    ∃ g, a = some ⟨g, 0, none⟩ ∧ w.rowIs g 22 n (fun i => .slice (A i) (L i) (L i)) ∧ ∀ i, i < n → Data w (A i) (L i) (Z i) := by
  rcases h with ⟨_, rfl⟩ | h
  · omega
  · exact h

/-- Behind a pop of the queue's front. -/
theorem pop_below {B : Nat} {w w3 w4 : World} {g o : Nat} {u v : Value} (h : Below B w w3) (hg : B ≤ g) (h4 : Below w3.heap.size ((w3.setCell ⟨g, o, none⟩ u).setCell ⟨g, o + 1, none⟩ v) w4) (hB : B ≤ w3.heap.size) : Below B w w4 :=
  ((h.setCell (p := ⟨g, o, none⟩) hg u).setCell (p := ⟨g, o + 1, none⟩) hg v).trans (h4.mono hB)

theorem pop_row {w3 w4 : World} {g n k : Nat} {f : Nat → Value} (h : w3.rowIs g 37 n (mix (k * 2) zf f)) (h4 : Below w3.heap.size ((w3.setCell ⟨g, k * 2, none⟩ (.int .i64 0)).setCell ⟨g, k * 2 + 1, none⟩ (.slice none 0 0)) w4) :
    w4.rowIs g 37 n (mix ((k + 1) * 2) zf f) := by
  have h1 := mix_step2 h
  rw [zf_even, zf_odd] at h1
  rw [show (k + 1) * 2 = k * 2 + 2 from by omega]
  exact h1.of_block (h4.block g h.lt)

theorem rest_cells {W : World} {g n c : Nat} {S : Nat → Int} {A : Nat → Option Addr} {L : Nat → Nat} (h : W.rowIs g 37 n (mix ((0 + 1) * 2) zf (mf S A L))) (hc : 2 + c * 2 + 1 < n) :
    W.cell? ⟨g, 2 + c * 2, none⟩ = some (.int .i64 (S (c + 1))) ∧ W.cell? ⟨g, 2 + c * 2 + 1, none⟩ = some (.slice (A (c + 1)) (L (c + 1)) (L (c + 1))) := by
  constructor
  · rw [h.cell (by omega)]
    unfold mix
    rw [if_neg (by omega), show 2 + c * 2 = (c + 1) * 2 from by omega, mf_even]
  · rw [h.cell (by omega)]
    unfold mix
    rw [if_neg (by omega), show 2 + c * 2 + 1 = (c + 1) * 2 + 1 from by omega, mf_odd]

set_option maxRecDepth 100000 in
set_option maxHeartbeats 1600000 in
theorem law5 (a : Option Addr) (ns c1 : Nat) (b : Option Addr) (nd c2 : Nat) (S : Nat → Int) (A : Nat → Option Addr) (L C : Nat → Nat) (Z : Nat → Nat → Int) (w : World) (hL : ∀ i, i < nd → L i ≤ maxLen) (hs : ns ≤ maxLen) (hd : nd ≤ maxLen)
    (hI : CameI w a ns c1 S) (hD : CameD w b nd c2 A L C Z) :
    Calls Try.prog 5 #[.slice a ns c1, .slice b nd c2] w fun e w' => e = .returned (.bool true) ∧ Below w.heap.size w w' := by
  have hB13 := bytes13 a ns c1 b nd c2 A L C Z w hL hs hd hD
  unfold maxLen at hs hd
  clear hL
  go_enter Try.func5, Try.ntmps5
  go_wp2_with fail
  refine hB13.mono ?_
  rintro e w1 ⟨rfl, t, rfl, ht⟩
  clear hB13
  cases t
  · go_wp2
    go_ret
    exact ⟨rfl, Below.refl _ _⟩
  obtain ⟨hn1, hn2, hL⟩ := ht rfl
  clear ht
  by_cases h1 : 65536 < ns
  · go_wp2
    go_ret
    exact ⟨rfl, Below.refl _ _⟩
  by_cases h2 : 65536 < nd
  · have b1 : decide ((65536 : Int) < (ns : Int)) = false := by simp; omega
    go_wp2
    go_ret
    exact ⟨rfl, Below.refl _ _⟩
  have b1 : decide ((65536 : Int) < (ns : Int)) = false := by simp; omega
  have b2 : decide ((65536 : Int) < (nd : Int)) = false := by simp; omega
  go_wp2_with fail
  go_loop [5, 6] (fun t i => ∃ (k : Nat) (v : Int), k ≤ nd ∧ i = .int .i64 k ∧ t = .int .i64 v ∧ 0 ≤ v ∧ v ≤ 2097152) (fun _ i => nd - (intOf i).toNat)
  case atStart => exact ⟨0, _, Nat.zero_le _, rfl, rfl, by omega, by omega⟩
  case round =>
    obtain ⟨k, v, hk, rfl, rfl, hv0, hv1⟩ := hrel
    by_cases hlt : k < nd
    · rcases hD with ⟨_, rfl, _⟩ | ⟨g, off, spot, rfl, hsp, hc⟩
      · omega
      obtain rfl := hsp (by omega)
      have hcell := (hc k hlt).1
      have hi0 : (0 : Int) ≤ (k : Int) := by omega
      have hi1 : (k : Int) < (nd : Int) := by omega
      have hLk := hL k hlt
      clear hc hL hI
      by_cases h5 : 1048576 < v + (L k : Int)
      · go_wp2
        go_ret
        exact ⟨rfl, Below.refl _ _⟩
      · go_wp2
        go_round
        case rel => exact ⟨k + 1, v + (L k : Int), by omega, by go_num, rfl, by omega, by omega⟩
        case measure => simp [intOf]; omega
    obtain rfl : k = nd := by omega
    by_cases h6 : 1048576 < v
    · clear hD hI hL
      go_wp2
      go_ret
      exact ⟨rfl, Below.refl _ _⟩
    have b3 : decide ((1048576 : Int) < v) = false := by simp; omega
    have HL : Hid (∀ i, i < k → L i ≤ 1048576) := hL
    clear hL
    go_wp2_with (first
      | (go_at_call 14; refine (cloneI_any a ns c1 S _ hn1 hI).mono ?_; rintro e w1 ⟨sa, rfl, _, hb1, hI1⟩)
      | (go_at_call 15; refine (cloneD_any b k c2 A L C Z _ hn2 HL.out (hD.below hb1)).mono ?_; rintro e w2 ⟨da, A', rfl, hb2, hD2⟩; have hI2 := hI1.below hb2)
      | (go_at_call 16; refine (msgs_any sa da ns k S A' L Z _ hn1 hn2 hI2 hD2).mono ?_; rintro e w3 ⟨r, n, rfl, hle1, hle2, hb3, hg, hQ⟩))
    have hb03 : Below w.heap.size w w3 := (hb1.trans (hb2.mono hb1.size)).trans (hb3.mono (Nat.le_trans hb1.size hb2.size))
    have hsz : w.heap.size ≤ w2.heap.size := Nat.le_trans hb1.size hb2.size
    have q22 : ∀ (w : World) (a : Option Addr) (n c n' c' : Nat), (binOp .eql 22 (.slice a n c) (.slice none n' c')).run Try.prog w = .ok (.bool a.isNone) w := fun w a n c n' c' => Lib.run_eql_slice_nil w _ _ a n c n' c' Try.underlying22
    have p22 : ∀ (w : World) (a : Option Addr) (n c n' c' : Nat), (binOp .neq 22 (.slice a n c) (.slice none n' c')).run Try.prog w = .ok (.bool (!a.isNone)) w := fun w a n c n' c' => run_neq_slice_nil_any w _ _ a n c n' c' Try.underlying22
    clear hI hD hb1 hI1 hb2
    rcases Nat.eq_zero_or_pos n with rfl | hpos
    · refine (zznext_none r 0 w3).mono ?_
      rintro e w4 ⟨rfl, hb4⟩
      have hb5 := (hb03.trans (hb4.mono hb03.size)).alloc (Nat.le_trans hb03.size hb4.size) (Obj.cells #[Value.int IntKind.i64 0, Value.slice none 0 0] 37)
      clear hb03 hb4 hb3 hQ
      go_wp2
      go_ret
      exact ⟨rfl, hb5⟩
    obtain ⟨m, rfl⟩ : ∃ m, n = m + 1 := ⟨n - 1, by omega⟩
    rcases hQ with ⟨_, hz⟩ | ⟨g, rfl, hQ⟩
    · omega
    have hgg := hg g rfl
    have hq0 := hQ.cell (i := 0) (by omega)
    have hq1 := hQ.cell (i := 1) (by omega)
    rw [show mf S A' L 0 = .int .i64 (S 0) from mf_even S A' L 0] at hq0
    rw [show mf S A' L 1 = .slice (A' 0) (L 0) (L 0) from mf_odd S A' L 0] at hq1
    refine (zznext_some g 0 m (S 0) (A' 0) (L 0) (L 0) w3 (by omega) hq0 hq1 (hQ.frozen 0) (hQ.frozen 1)).mono ?_
    rintro e w4 ⟨ad, rfl, had, hb4⟩
    have hb24 : Below w2.heap.size w2 w4 := pop_below hb3 hgg hb4 hb3.size
    have hb04 : Below w.heap.size w w4 := pop_below hb03 (by omega) hb4 hb03.size
    have hQ4 : w4.rowIs g 37 ((m + 1) * 2) (mix ((0 + 1) * 2) zf (mf S A' L)) := pop_row (k := 0) (hQ.congr (fun i _ => by simp [mix])) hb4
    have hI4 := hI2.below hb24
    have hD4 := hD2.below hb24
    have bm : (((m : Int) + 1) == 0) = false := by simp; omega
    clear hb4 hb03 hb3 hI2 hD2 hQ hq0 hq1 hb24 hg
    go_wp2_with fail
    have hal := (Below.refl w4.heap.size w4).alloc (Nat.le_refl _) (Obj.cells #[Value.int IntKind.i64 (S 0), Value.slice (A' 0) (L 0) (L 0)] 37)
    have hb5 := hb04.trans (hal.mono hb04.size)
    have hI5 := hI4.below hal
    have hD5 := hD4.below hal
    have hQ5 := hQ4.alloc (Obj.cells #[Value.int IntKind.i64 (S 0), Value.slice (A' 0) (L 0) (L 0)] 37)
    have hm0 : (w4.alloc (Obj.cells #[Value.int IntKind.i64 (S 0), Value.slice (A' 0) (L 0) (L 0)] 37)).cell? ⟨w4.heap.size, 0, none⟩ = some (.int .i64 (S 0)) := by simp
    have hm1 : (w4.alloc (Obj.cells #[Value.int IntKind.i64 (S 0), Value.slice (A' 0) (L 0) (L 0)] 37)).cell? ⟨w4.heap.size, 1, none⟩ = some (.slice (A' 0) (L 0) (L 0)) := by simp
    clear hal hb04 hI4 hD4 hQ4
    generalize w4.alloc (Obj.cells #[Value.int IntKind.i64 (S 0), Value.slice (A' 0) (L 0) (L 0)] 37) = W at hb5 hI5 hD5 hQ5 hm0 hm1 ⊢
    generalize w4.heap.size = p at hm0 hm1 ⊢
    obtain ⟨g1, rfl, hi⟩ := hI5.at (k := 0) (by omega)
    obtain ⟨g2, rfl, hd, hdat⟩ := hD5.at (k := 0) (by omega)
    have s0 := hi.cell (i := 0) (by omega)
    have d0 := hd.cell (i := 0) (by omega)
    have hL0 := HL.out 0 (by omega)
    have hdat0 := hdat 0 (by omega)
    have z0 : W.cell? ⟨g, 0, none⟩ = some (.int .i64 0) := hQ5.cell (i := 0) (by omega)
    have z1 : W.cell? ⟨g, 1, none⟩ = some (.slice none 0 0) := hQ5.cell (i := 1) (by omega)
    have j0 : (0 : Int) < (ns : Int) := by omega
    have j1 : (0 : Int) < (k : Int) := by omega
    have j2 : (0 : Int) < (m : Int) + 1 := by omega
    clear hI5 hD5
    go_quiet ((go_at_call 12; exact Calls.quiet_of (same_any _ _ (Z 0) _ hL0 (hdat0.drewN _))))
    go_wp2
    clear s0 d0 z0 z1 hm0 hm1 hdat0
    rw [Nat.zero_add] at had
    go_loopw [12] (fun i wr => ∃ c : Nat, c ≤ m ∧ i = .int .i64 c ∧ ∃ q, wr = W.drewN q) (fun i _ => m - (intOf i).toNat)
    case atStart => exact ⟨0, Nat.zero_le _, rfl, nq, rfl⟩
    case round =>
      obtain ⟨c, hc, rfl, q, hq⟩ := hrel
      by_cases hcm : c < m
      · obtain rfl := had (by omega)
        obtain ⟨e0, e1⟩ := rest_cells (W := wr) (c := c) (by rw [hq]; exact rowIs_drewN hQ5 q) (by omega)
        have e2 : wr.cell? ⟨g1, c + 1, none⟩ = some (.int .i64 (S (c + 1))) := by rw [hq]; exact hi.cell (i := c + 1) (by omega)
        have e3 : wr.cell? ⟨g2, c + 1, none⟩ = some (.slice (A' (c + 1)) (L (c + 1)) (L (c + 1))) := by rw [hq]; exact hd.cell (i := c + 1) (by omega)
        have hL1 := HL.out (c + 1) (by omega)
        have hdat1 : Data wr (A' (c + 1)) (L (c + 1)) (Z (c + 1)) := by rw [hq]; exact (hdat (c + 1) (by omega)).drewN q
        have Hq : Hid (wr = W.drewN q) := hq
        clear hq
        have i0 : (0 : Int) ≤ (c : Int) := by omega
        have i1 : (c : Int) < (m : Int) := by omega
        have i2 : (c : Int) + 1 < (ns : Int) := by omega
        have i3 : (c : Int) + 1 < (k : Int) := by omega
        have i4 : (0 : Int) ≤ (c : Int) + 1 := by omega
        have i5 : ((c : Int) + 1).toNat = c + 1 := by omega
        have i6 : IntKind.i64.wrap ((c : Int) + 1) = (c : Int) + 1 := by rw [IntKind.wrap_i64]; omega
        go_wp2_with fail
        go_quiet ((go_at_call 12; exact Calls.quiet_of (same_any _ _ (Z (c + 1)) _ hL1 (hdat1.drewN _))))
        go_wp2
        go_roundw
        case rel => exact ⟨c + 1, by omega, by go_num, q + nq, by rw [Hq.out, World.drewN_drewN]⟩
        case measure => simp [intOf]; omega
      · obtain rfl : c = m := by omega
        subst hq
        go_wp2
        go_ret
        exact ⟨rfl, below_drewN hb5 _⟩

end Go.Proofs.Qxb6602502a
