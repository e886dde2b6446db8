/-
  The walk of the law 'FnFifoDrainDeliversInOrder' (6).
-/
import Derived.Test.Qxb6602502aFifoE
namespace Go.Proofs.Qxb6602502a
open Go.RowKit

/-- What the drain keeps, c messages taken. -/
def Drn (w w2 wr : World) (g n c : Nat) (f : Nat → Value) : Prop :=
  Below w.heap.size w wr ∧ Below w2.heap.size w2 wr ∧ (0 < n → wr.rowIs g 37 (n * 2) (mix (c * 2) zf f))

theorem Drn.on {w w2 wr w4 : World} {g n c : Nat} {f : Nat → Value} (h : Drn w w2 wr g n c f) (hb : Below wr.heap.size wr w4) : Drn w w2 w4 g n c f :=
  ⟨h.1.trans (hb.mono h.1.size), h.2.1.trans (hb.mono h.2.1.size), fun h0 => (h.2.2 h0).of_block (hb.block g (h.2.2 h0).lt)⟩

theorem Drn.pop {w w2 wr w4 : World} {g n c : Nat} {f : Nat → Value} (h : Drn w w2 wr g n c f) (hw : w.heap.size ≤ g) (hg : w2.heap.size ≤ g)
    (h4 : Below wr.heap.size ((wr.setCell ⟨g, c * 2, none⟩ (.int .i64 0)).setCell ⟨g, c * 2 + 1, none⟩ (.slice none 0 0)) w4) : Drn w w2 w4 g n (c + 1) f :=
  ⟨pop_below h.1 hw h4 h.1.size, pop_below h.2.1 hg h4 h.2.1.size, fun h0 => pop_row (h.2.2 h0) h4⟩

theorem Drn.front {w w2 wr : World} {g n c : Nat} {S : Nat → Int} {A : Nat → Option Addr} {L : Nat → Nat} (h : Drn w w2 wr g n c (mf S A L)) (hc : c < n) :
    wr.cell? ⟨g, c * 2, none⟩ = some (.int .i64 (S c)) ∧ wr.cell? ⟨g, c * 2 + 1, none⟩ = some (.slice (A c) (L c) (L c)) ∧ wr.frozen? ⟨g, c * 2, none⟩ = false ∧ wr.frozen? ⟨g, c * 2 + 1, none⟩ = false := by
  have hr := h.2.2 (by omega)
  refine ⟨?_, ?_, hr.frozen _, hr.frozen _⟩
  · rw [hr.cell (by omega)]; unfold mix; rw [if_neg (by omega), mf_even]
  · rw [hr.cell (by omega)]; unfold mix; rw [if_neg (by omega), mf_odd]

theorem Drn.clear {w w2 wr : World} {g n c : Nat} {f : Nat → Value} (h : Drn w w2 wr g n n f) (hc : c < n) :
    wr.cell? ⟨g, c * 2, none⟩ = some (.int .i64 0) ∧ wr.cell? ⟨g, c * 2 + 1, none⟩ = some (.slice none 0 0) := by
  have hr := h.2.2 (by omega)
  refine ⟨?_, ?_⟩
  · rw [hr.cell (by omega)]; unfold mix; rw [if_pos (by omega), zf_even]
  · rw [hr.cell (by omega)]; unfold mix; rw [if_pos (by omega), zf_odd]

set_option maxRecDepth 100000 in
set_option maxHeartbeats 1600000 in
theorem law6 (a : Option Addr) (ns c1 : Nat) (b : Option Addr) (nd c2 : Nat) (S : Nat → Int) (A : Nat → Option Addr) (L C : Nat → Nat) (Z : Nat → Nat → Int) (w : World) (hL : ∀ i, i < nd → L i ≤ maxLen) (hs : ns ≤ maxLen) (hd : nd ≤ maxLen)
    (hI : CameI w a ns c1 S) (hD : CameD w b nd c2 A L C Z) :
    Calls Try.prog 6 #[.slice a ns c1, .slice b nd c2] w fun e w' => e = .returned (.bool true) ∧ Below w.heap.size w w' := by
  have hB18 := bytes18 a ns c1 b nd c2 A L C Z w hL hs hd hD
  unfold maxLen at hs hd
  clear hL
  go_enter Try.func6, Try.ntmps6
  go_wp2_with fail
  refine hB18.mono ?_
  rintro e w1 ⟨rfl, t, rfl, ht⟩
  clear hB18
  cases t
  · go_wp2
    go_ret
    exact ⟨rfl, Below.refl _ _⟩
  obtain ⟨hn1, hn2, hL⟩ := ht rfl
  clear ht
  by_cases h1 : 65536 < ns
  · go_wp2
    go_ret
    exact ⟨rfl, Below.refl _ _⟩
  by_cases h2 : 65536 < nd
  · have b1 : decide ((65536 : Int) < (ns : Int)) = false := by simp; omega
    go_wp2
    go_ret
    exact ⟨rfl, Below.refl _ _⟩
  have b1 : decide ((65536 : Int) < (ns : Int)) = false := by simp; omega
  have b2 : decide ((65536 : Int) < (nd : Int)) = false := by simp; omega
  go_wp2_with fail
  go_loop [5, 6] (fun t i => ∃ (k : Nat) (v : Int), k ≤ nd ∧ i = .int .i64 k ∧ t = .int .i64 v ∧ 0 ≤ v ∧ v ≤ 2097152) (fun _ i => nd - (intOf i).toNat)
  case atStart => exact ⟨0, _, Nat.zero_le _, rfl, rfl, by omega, by omega⟩
  case round =>
    obtain ⟨k, v, hk, rfl, rfl, hv0, hv1⟩ := hrel
    by_cases hlt : k < nd
    · rcases hD with ⟨_, rfl, _⟩ | ⟨g, off, spot, rfl, hsp, hc⟩
      · omega
      obtain rfl := hsp (by omega)
      have hcell := (hc k hlt).1
      have hi0 : (0 : Int) ≤ (k : Int) := by omega
      have hi1 : (k : Int) < (nd : Int) := by omega
      have hLk := hL k hlt
      clear hc hL hI
      by_cases h5 : 1048576 < v + (L k : Int)
      · go_wp2
        go_ret
        exact ⟨rfl, Below.refl _ _⟩
      · go_wp2
        go_round
        case rel => exact ⟨k + 1, v + (L k : Int), by omega, by go_num, rfl, by omega, by omega⟩
        case measure => simp [intOf]; omega
    obtain rfl : k = nd := by omega
    by_cases h6 : 1048576 < v
    · clear hD hI hL
      go_wp2
      go_ret
      exact ⟨rfl, Below.refl _ _⟩
    have b3 : decide ((1048576 : Int) < v) = false := by simp; omega
    have HL : Hid (∀ i, i < k → L i ≤ 1048576) := hL
    clear hL
    go_wp2_with (first
      | (go_at_call 14; refine (cloneI_any a ns c1 S _ hn1 hI).mono ?_; rintro e w1 ⟨sa, rfl, _, hb1, hI1⟩)
      | (go_at_call 15; refine (cloneD_any b k c2 A L C Z _ hn2 HL.out (hD.below hb1)).mono ?_; rintro e w2 ⟨da, A', rfl, hb2, hD2⟩; have hI2 := hI1.below hb2)
      | (go_at_call 16; refine (msgs_any sa da ns k S A' L Z _ hn1 hn2 hI2 hD2).mono ?_; rintro e w3 ⟨r, n, rfl, hle1, hle2, hb3, hg, hQ⟩))
    have hb03 : Below w.heap.size w w3 := (hb1.trans (hb2.mono hb1.size)).trans (hb3.mono (Nat.le_trans hb1.size hb2.size))
    have hsz : w.heap.size ≤ w2.heap.size := Nat.le_trans hb1.size hb2.size
    have p22 : ∀ (w : World) (a : Option Addr) (n c n' c' : Nat), (binOp .neq 22 (.slice a n c) (.slice none n' c')).run Try.prog w = .ok (.bool (!a.isNone)) w := fun w a n c n' c' => run_neq_slice_nil_any w _ _ a n c n' c' Try.underlying22
    obtain ⟨g, hgr, hD0⟩ : ∃ g, (0 < n → r = some ⟨g, 0, none⟩ ∧ w2.heap.size ≤ g) ∧ Drn w w2 w3 g n 0 (mf S A' L) := by
      rcases hQ with ⟨_, hz⟩ | ⟨g, hr, hQ⟩
      · exact ⟨0, fun h => absurd h (by omega), hb03, hb3, fun h => absurd h (by omega)⟩
      · exact ⟨g, fun _ => ⟨hr, hg g hr⟩, hb03, hb3, fun _ => hQ.congr (fun i _ => by simp [mix])⟩
    clear hI hD hb1 hI1 hb2 hb03 hb3 hQ hg
    go_wp2_with fail
    go_loopw [9, 10] (fun q i wr => ∃ (c d : Nat) (qa : Option Addr), i = .int .i64 c ∧ q = .slice qa d d ∧ d + c = n ∧ (0 < d → qa = some ⟨g, c * 2, none⟩) ∧ Drn w w2 wr g n c (mf S A' L)) (fun _ i _ => n - (intOf i).toNat)
    case atStart => exact ⟨0, n, r, rfl, rfl, rfl, fun h => by rw [(hgr h).1, Nat.zero_mul], hD0⟩
    case round =>
      clear hD0
      obtain ⟨c, d, qa, rfl, rfl, hdc, hqa, hR⟩ := hrel
      rcases Nat.eq_zero_or_pos d with rfl | hpos
      · obtain rfl : c = n := by omega
        go_wp2_with fail
        refine (zznext_none qa 0 wr).mono ?_
        rintro e w4 ⟨rfl, hb4⟩
        have hR5 := hR.on (hb4.alloc hb4.size (Obj.cells #[Value.int IntKind.i64 0, Value.slice none 0 0] 37))
        clear hR hb4 hI2 hD2 hqa hdc
        go_wp2
        generalize w4.alloc (Obj.cells #[Value.int IntKind.i64 0, Value.slice none 0 0] 37) = W at hR5 ⊢
        go_loop [14] (fun i => ∃ f : Nat, f ≤ c ∧ i = .int .i64 f) (fun i => c - (intOf i).toNat)
        case atStart => exact ⟨0, Nat.zero_le _, rfl⟩
        case round =>
          obtain ⟨f, hf, rfl⟩ := hrel
          by_cases hfc : f < c
          · obtain ⟨rfl, _⟩ := hgr (by omega)
            obtain ⟨z0, z1⟩ := hR5.clear hfc
            have i0 : (0 : Int) ≤ (f : Int) := by omega
            have i1 : (f : Int) < (c : Int) := by omega
            clear hR5 hgr
            go_wp2
            go_round
            case rel => exact ⟨f + 1, by omega, by go_num⟩
            case measure => simp [intOf]; omega
          · obtain rfl : f = c := by omega
            go_wp2
            go_ret
            exact ⟨rfl, hR5.1⟩
      · obtain ⟨e, rfl⟩ : ∃ e, d = e + 1 := ⟨d - 1, by omega⟩
        obtain rfl := hqa (by omega)
        have hgr2 := (hgr (by omega)).2
        have hcn : c < n := by omega
        obtain ⟨f0, f1, f2, f3⟩ := hR.front hcn
        have bc : ((c : Int) == (n : Int)) = false := by simp; omega
        go_wp2_with fail
        refine (zznext_some g (c * 2) e (S c) (A' c) (L c) (L c) wr (by omega) f0 f1 f2 f3).mono ?_
        rintro e1 w4 ⟨ad, rfl, had, hb4⟩
        have hR4 := hR.pop (by omega) hgr2 hb4
        have hR5 := hR4.on ((Below.refl w4.heap.size w4).alloc (Nat.le_refl _) (Obj.cells #[Value.int IntKind.i64 (S c), Value.slice (A' c) (L c) (L c)] 37))
        clear hb4 hR4 f0 f1 f2 f3 hR
        go_wp2_with fail
        have hm0 : (w4.alloc (Obj.cells #[Value.int IntKind.i64 (S c), Value.slice (A' c) (L c) (L c)] 37)).cell? ⟨w4.heap.size, 0, none⟩ = some (.int .i64 (S c)) := by simp
        have hm1 : (w4.alloc (Obj.cells #[Value.int IntKind.i64 (S c), Value.slice (A' c) (L c) (L c)] 37)).cell? ⟨w4.heap.size, 1, none⟩ = some (.slice (A' c) (L c) (L c)) := by simp
        generalize w4.alloc (Obj.cells #[Value.int IntKind.i64 (S c), Value.slice (A' c) (L c) (L c)] 37) = W at hR5 hm0 hm1 ⊢
        generalize w4.heap.size = p at hm0 hm1 ⊢
        obtain ⟨g1, rfl, hi⟩ := (hI2.below hR5.2.1).at (k := 0) (by omega)
        obtain ⟨g2, rfl, hd, hdat⟩ := (hD2.below hR5.2.1).at (k := 0) (by omega)
        have s0 := hi.cell (i := c) (by omega)
        have d0 := hd.cell (i := c) (by omega)
        have hLc := HL.out c (by omega)
        have hdatc := hdat c (by omega)
        have j0 : (0 : Int) ≤ (c : Int) := by omega
        have j1 : (c : Int) < (ns : Int) := by omega
        have j2 : (c : Int) < (k : Int) := by omega
        clear hi hd hdat
        go_quiet ((go_at_call 12; exact Calls.quiet_of (same_any _ _ (Z c) _ hLc (hdatc.drewN _))))
        clear s0 d0 hm0 hm1 hdatc
        have bl : ((e : Int) != (n : Int) - (c : Int) - 1) = false := by simp; omega
        have hR6 := hR5.on (below_drewN (Below.refl _ _) nq)
        clear hR5
        go_wp2
        go_roundw
        case rel => exact ⟨c + 1, e, some ad, by go_num, rfl, by omega, fun h => by rw [had h, show (c + 1) * 2 = c * 2 + 2 from by omega], hR6⟩
        case measure => simp [intOf]; omega

end Go.Proofs.Qxb6602502a
