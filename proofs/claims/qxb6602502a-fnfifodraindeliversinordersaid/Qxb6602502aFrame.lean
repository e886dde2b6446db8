/-
  The walks of 'handoverPiece.frame' (function 19), 'ZZHandoverFrame' (9), 'zzB1HandoverHeader' (10), 'zzBytes_FnHandoverFrameExact' (7).
-/
import Derived.Test.Qxb6602502aClone
import Derived.Deep.AppendSrc
import Derived.Deep.RegionLaw
import Derived.BigQuiet
namespace Go.Proofs.Qxb6602502a
open Go.RowKit

/-- Only block b has turned. -/
structure Only (b : Nat) (w w' : World) : Prop where
  os : w'.os = w.os
  tape : w'.tape = w.tape
  output : w'.output = w.output
  size : w'.heap.size = w.heap.size
  block : ∀ k, k ≠ b → w'.heap[k]? = w.heap[k]?

theorem Only.refl (b : Nat) (w : World) : Only b w w := ⟨rfl, rfl, rfl, rfl, fun _ _ => rfl⟩
theorem Only.trans {b : Nat} {u v w : World} (h : Only b u v) (k : Only b v w) : Only b u w :=
  ⟨k.os.trans h.os, k.tape.trans h.tape, k.output.trans h.output, k.size.trans h.size, fun i hi => (k.block i hi).trans (h.block i hi)⟩
theorem Only.setCell (w : World) (b o : Nat) (v : Value) : Only b w (w.setCell ⟨b, o, none⟩ v) :=
  ⟨rfl, rfl, rfl, Deep.nblk_setCell _ _ _, fun _ hk => Deep.blk_setCell_other _ _ _ _ hk⟩
theorem Only.setCells (b : Nat) : ∀ (vs : List Value) (o : Nat) (w : World), Only b w (w.setCells b o vs)
  | [], _, w => Only.refl b w
  | v :: r, o, w => (Only.setCell w b o v).trans (Only.setCells b r (o + 1) _)
theorem Only.below {b B : Nat} {w w' : World} (h : Only b w w') (hB : B ≤ b) : Below B w w' :=
  ⟨h.os, h.tape, h.output, by rw [h.size]; exact Nat.le_refl _, fun k hk => h.block k (by omega)⟩
theorem Only.cell {b : Nat} {w w' : World} (h : Only b w w') {p : Addr} (hp : p.block ≠ b) : w'.cell? p = w.cell? p := World.cell?_of_block (w := w) (h.block _ hp)
theorem Only.frozen {b : Nat} {w w' : World} (h : Only b w w') {p : Addr} (hp : p.block ≠ b) : w'.frozen? p = w.frozen? p := World.frozen?_of_block (w := w) (h.block _ hp)

/-- A row's content behind a run of stores from o on. -/
def upd (f : Nat → Value) (o : Nat) (vs : List Value) : Nat → Value := fun j => if o ≤ j then vs.getD (j - o) (f j) else f j

theorem rowIs_setCells {b t n : Nat} : ∀ (vs : List Value) (o : Nat) (w : World) (f : Nat → Value), w.rowIs b t n f → (w.setCells b o vs).rowIs b t n (upd f o vs)
  | [], o, w, f, h => h.congr (fun i _ => by simp [upd])
  | v :: r, o, w, f, h => by
    refine (rowIs_setCells r (o + 1) _ _ (h.set o v)).congr (fun i _ => ?_)
    unfold upd
    by_cases h1 : i = o
    · subst h1
      rw [if_neg (by omega), if_pos (Nat.le_refl _)]
      simp
    · by_cases h2 : o ≤ i
      · rw [if_pos h2, if_pos (by omega), show i - o = (i - (o + 1)) + 1 from by omega, List.getD_cons_succ]
        simp only [if_neg h1]
      · rw [if_neg h2, if_neg (by omega)]
        simp only [if_neg h1]

/-- append WITHIN THE CAPACITY onto a row of the call's own, as one step of a region that draws. -/
theorem step_append_into {P : Program} {ops : Array Oper} {o : Oper} {a : Act} {w : World} {K : Act → World → Prop} {Q : Exit → Act → World → Prop} {E : Prop}
    (hg : o.guard = none) (s x : Operand) (t : TypeId) (hop : o.op = Op.call { callee := Callee.builtin Builtin.append, args := #[s, x], argTypes := #[t, t] })
    (e : TypeId) (i : TypeInfo) (h1 : P.underlying t = some (.slice e)) (h2 : P.info? e = some i) (h4 : i.size = 1)
    (b n cap : Nat) (hs : a.eval s = .slice (some ⟨b, 0, none⟩) n cap)
    (xv : Value) (m : Nat) (news : List Value) (hx : a.eval x = xv) (hsrc : Src P 1 t xv m news w) (f : Nat → Value) (hrow : w.rowIs b e cap f)
    (hroom : n + m ≤ cap)
    (hK : ∀ w', Only b w w' → w'.rowIs b e cap (upd f n news) → K (a.put o.dst (.slice (some ⟨b, 0, none⟩) (n + m) cap)) w') :
    if Region.wanted o (yielded ops a.tmps) = true then Oper.wp P o a w K Q else E := by
  have hw : Region.wanted o (yielded ops a.tmps) = true := by simp [Region.wanted, hg]
  rw [if_pos hw]
  have hl := hsrc.newsLen
  rw [← h4] at hsrc
  have hrun := run_append_room_src (P := P) w t t o.type e i h1 h2 b 0 n cap xv m news hsrc hroom
    (fun j hj => by rw [h4]; rw [show (0 + n * 1 + j) = n + j from by omega, hrow.cell (by omega)]; rfl) (fun j _ => hrow.frozen _)
  rw [h4] at hrun
  have hK' : K (a.put o.dst (.slice (some ⟨b, 0, none⟩) (n + m) cap)) (w.setCells b n news) := hK _ (Only.setCells b news n w) (rowIs_setCells news n w f hrow)
  unfold Oper.wp
  simp [execOp, hop, resolve, invoke, builtin, hs, hx, hrun, Result.andThen]
  exact hK'

/-- A byte slice of the call's own: nil, or a block of its own that it fills. -/
def Data (w : World) (a : Option Addr) (n : Nat) (Z : Nat → Int) : Prop :=
  (a = none ∧ n = 0) ∨ ∃ g, a = some ⟨g, 0, none⟩ ∧ w.rowIs g 5 n (fun i => .int .u8 (Z i))

theorem Data.below {w w' : World} {a : Option Addr} {n : Nat} {Z : Nat → Int} (h : Data w a n Z) (hb : Below w.heap.size w w') : Data w' a n Z := by
  rcases h with h | ⟨g, rfl, h⟩
  · exact .inl h
  · exact .inr ⟨g, rfl, h.of_block (hb.block g h.lt)⟩

def cellsZ (Z : Nat → Int) (n : Nat) : List Value := (List.range n).map fun i => .int .u8 (Z i)

theorem Data.src {w : World} {a : Option Addr} {n : Nat} {Z : Nat → Int} (h : Data w a n Z) : Src Try.prog 1 22 (.slice a n n) n (cellsZ Z n) w := by
  rcases h with ⟨rfl, rfl⟩ | ⟨g, rfl, h⟩
  · exact Src.ofNil w Try.underlying22 0
  · refine Src.ofSlice w Try.underlying22 _ n n _ (by simp [cellsZ]) (fun j u hu => ?_) (fun u hu => ?_)
    · have hj : j < n := by have := (List.getElem?_eq_some_iff.1 hu).1; simpa [cellsZ] using this
      rw [Addr.add_lit, Nat.zero_add, h.cell hj]
      simpa [cellsZ, hj] using hu
    · obtain ⟨i, _, rfl⟩ := List.mem_map.1 hu
      rfl

/-- The body of the frame. -/
def bodyF (hdr : Int) (Z : Nat → Int) : Nat → Value := fun j => if j = 0 then .int .u8 hdr else .int .u8 (Z (j - 1))

def hdrOf (last non : Bool) : Int := if non then 2 else if last then 1 else 0

theorem frame_start (w : World) (last non : Bool) (a : Option Addr) (n : Nat) :
    let W := ((w.alloc (Obj.cells #[Value.bool last, Value.bool non, Value.slice a n n] 43)).alloc (Obj.cells #[Value.int IntKind.u8 0, Value.slice none 0 0] 41)).alloc (Obj.cells (madeCells #[Value.int IntKind.u8 0] (1 + n)) 5)
    Below w.heap.size w W ∧ W.heap.size = w.heap.size + 1 + 1 + 1 ∧ W.cell? ⟨w.heap.size, 2, none⟩ = some (.slice a n n) ∧ W.heap[w.heap.size + 1]? = some (.cells #[Value.int IntKind.u8 0, Value.slice none 0 0] 41 (0, 0)) ∧
      W.rowIs (w.heap.size + 1 + 1) 5 (1 + n) (fun _ => .int .u8 0) := by
  refine ⟨(((Below.refl _ _).alloc (Nat.le_refl _) _).alloc (by simp) _).alloc (by simp; omega) _, by simp, ?_, ?_, ?_⟩
  · rw [World.cell?_of_block (w := w.alloc (Obj.cells #[Value.bool last, Value.bool non, Value.slice a n n] 43))]
    · simp
    · rw [Deep.blk_alloc_lt _ _ _ (by simp; omega), Deep.blk_alloc_lt _ _ _ (by simp)]
  · rw [Deep.blk_alloc_lt _ _ _ (by simp)]
    have := Deep.blk_alloc_new (w.alloc (Obj.cells #[Value.bool last, Value.bool non, Value.slice a n n] 43)) (Obj.cells #[Value.int IntKind.u8 0, Value.slice none 0 0] 41)
    simpa using this
  · have := World.rowIs_made ((w.alloc (Obj.cells #[Value.bool last, Value.bool non, Value.slice a n n] 43)).alloc (Obj.cells #[Value.int IntKind.u8 0, Value.slice none 0 0] 41)) (.int .u8 0) (1 + n) 5
    simpa using this

theorem make_frame (n : Nat) (hn : n ≤ 1048576) (w : World) : (Instr.makeSlice 22 (.int .i64 0) (.int .i64 (1 + (n : Int)))).run Try.prog w = .ok (.slice (some ⟨w.heap.size, 0, none⟩) 0 (1 + n)) (w.alloc (.cells (madeCells #[.int .u8 0] (1 + n)) 5)) := by
  obtain ⟨i, hi, hzz⟩ := Option.map_eq_some_iff.1 info5
  simp only [Prod.mk.injEq] at hzz
  obtain ⟨hz, hs, hb⟩ := hzz
  have := run_make (P := Try.prog) w 22 5 i _ Try.underlying22 hi hz .i64 .i64 0 (1 + (n : Int)) (by omega) (by omega) (by rw [hb]; omega) (by omega)
  rw [hs] at this
  simpa [show (1 + (n : Int)).toNat = 1 + n from by omega, Value.cells] using this

theorem src_one {W : World} {B : Nat} (hS : W.heap.size = B) (h : Int) : Src Try.prog 1 22 (.slice (some ⟨B, 0, none⟩) 1 1) 1 [.int .u8 h] (W.alloc (.cells #[.int .u8 h] 5)).drew := by
  refine Src.ofSlice _ Try.underlying22 _ 1 1 _ (by simp) (fun j u hu => ?_) (fun u hu => ?_)
  · subst hS
    match j, hu with
    | 0, hu => simp at hu; subst hu; simp [Addr.add]
  · simp at hu; subst hu; rfl

/-- Behind the first append. -/
theorem frame_mid {w W w1 : World} {a : Option Addr} {n : Nat} {Z : Nat → Int} {o : Obj} (hd : Data w a n Z) (hB : Below w.heap.size w W) (hS : W.heap.size = w.heap.size + 1 + 1 + 1) (hC : W.cell? ⟨w.heap.size, 2, none⟩ = some (.slice a n n))
    (hR : W.heap[w.heap.size + 1]? = some (.cells #[Value.int IntKind.u8 0, Value.slice none 0 0] 41 (0, 0))) (ho : Only (w.heap.size + 1 + 1) (W.alloc o).drew w1) :
    Below w.heap.size w w1 ∧ w1.heap.size = w.heap.size + 1 + 1 + 1 + 1 ∧ w1.cell? ⟨w.heap.size, 2, none⟩ = some (.slice a n n) ∧ w1.heap[w.heap.size + 1]? = some (.cells #[Value.int IntKind.u8 0, Value.slice none 0 0] 41 (0, 0)) ∧ Data w1 a n Z := by
  have hb : Below w.heap.size w w1 := ((hB.alloc (by omega) o).drew).trans (ho.below (by omega))
  refine ⟨hb, by rw [ho.size]; show (W.alloc o).heap.size = _; simp [hS], ?_, ?_, hd.below hb⟩
  · rw [ho.cell (by simp; omega)]
    show (W.alloc o).cell? _ = _
    rw [World.cell?_of_block (w := W) (Deep.blk_alloc_lt _ _ _ (by simp; omega)), hC]
  · rw [ho.block _ (by omega)]
    show (W.alloc o).heap[_]? = _
    rw [Deep.blk_alloc_lt _ _ _ (by omega), hR]

/-- Behind the second. -/
theorem frame_end {w w1 w2 : World} (hb : Below w.heap.size w w1) 
    (hR : w1.heap[w.heap.size + 1]? = some (.cells #[Value.int IntKind.u8 0, Value.slice none 0 0] 41 (0, 0))) (ho : Only (w.heap.size + 1 + 1) w1 w2) :
    Below w.heap.size w w2 ∧ w2.cell? ⟨w.heap.size + 1, 0, none⟩ = some (.int .u8 0) ∧ w2.cell? ⟨w.heap.size + 1, 1, none⟩ = some (.slice none 0 0) ∧ w2.frozen? ⟨w.heap.size + 1, 0, none⟩ = false ∧ w2.frozen? ⟨w.heap.size + 1, 1, none⟩ = false := by
  have h := (ho.block (w.heap.size + 1) (by omega)).trans hR
  exact ⟨hb.trans (ho.below (by omega)), by simp [World.cell?, h], by simp [World.cell?, h], by simp [World.frozen?, h], by simp [World.frozen?, h]⟩

theorem body_row {w : World} {b n : Nat} {hdr : Int} {Z : Nat → Int} (h : w.rowIs b 5 (1 + n) (upd (upd (fun _ => .int .u8 0) 0 [.int .u8 hdr]) 1 (cellsZ Z n))) : w.rowIs b 5 (1 + n) (bodyF hdr Z) := by
  refine h.congr (fun i hi => ?_)
  unfold upd bodyF cellsZ
  by_cases h0 : i = 0
  · subst h0; simp
  · rw [if_pos (by omega), if_neg h0]
    simp [show i - 1 < n from by omega]

set_option maxHeartbeats 800000 in
theorem frame_ff (a : Option Addr) (n : Nat) (Z : Nat → Int) (w : World) (hn : n ≤ 1048576) (hd : Data w a n Z) :
    Calls Try.prog 19 #[.agg #[.bool false, .bool false, .slice a n n]] w fun e w' => e = .returned (.agg #[.int .u8 26, .slice (some ⟨w.heap.size + 1 + 1, 0, none⟩) (1 + n) (1 + n)]) ∧ Below w.heap.size w w' ∧
      w'.rowIs (w.heap.size + 1 + 1) 5 (1 + n) (bodyF 0 Z) := by
  have hmk := make_frame n hn
  obtain ⟨i0, hi0, hz0, hz1, hz2⟩ := info_parts info5
  have F := frame_start w false false a n
  go_enter Try.func19, Try.ntmps19
  go_wp2_with fail
  generalize hWW : ((w.alloc (Obj.cells #[Value.bool false, Value.bool false, Value.slice a n n] 43)).alloc (Obj.cells #[Value.int IntKind.u8 0, Value.slice none 0 0] 41)).alloc (Obj.cells (madeCells #[Value.int IntKind.u8 0] (1 + n)) 5) = W at F ⊢
  clear hWW hmk
  obtain ⟨hB, hS, hC, hR, hrow⟩ := F
  go_region_law (first
    | (refine step_append_into rfl (.tmp 16) (.tmp 18) 22 rfl 5 i0 Try.underlying22 hi0 hz1 (w.heap.size + 1 + 1) 0 (1 + n) (by simp [Act.eval]) (.slice (some ⟨w.heap.size + 1 + 1 + 1, 0, none⟩) 1 1) 1 [.int .u8 0] (by simp [Act.eval]) (by exact src_one hS 0) (fun _ => .int .u8 0) (by exact (hrow.alloc _).drew) (by omega) ?_; intro w1 ho1 hr1; obtain ⟨hb1, hs1, hc1, hR1, hd1⟩ := frame_mid hd hB hS hC hR ho1; have hsrc1 := hd1.src; have hR2 : Hid _ := hR1; clear ho1 hd1 hR1)
    | (refine step_append_into rfl (.tmp 19) (.tmp 21) 22 rfl 5 i0 Try.underlying22 hi0 hz1 (w.heap.size + 1 + 1) 1 (1 + n) (by simp [Act.eval]) (.slice a n n) n (cellsZ Z n) (by simp [Act.eval]) (by exact hsrc1) _ (by exact hr1) (by omega) ?_; intro w2 ho2 hr2; obtain ⟨hb2, c0, c1, f0, f1⟩ := frame_end hb1 hR2.out ho2; clear ho2))
  all_goals go_wp2
  all_goals
    refine bodyPost_ret (v := .agg #[.int .u8 26, .slice (some ⟨w.heap.size + 1 + 1, 0, none⟩) (1 + n) (1 + n)]) ?_ rfl ⟨rfl, ?_, ?_⟩
    · simp [results, Try.results19, go_sem, c0, c1]
    · exact (hb2.setCell (by simp) _).setCell (by simp) _
    · exact ((body_row hr2).setOther (by simp) _).setOther (by simp) _

set_option maxHeartbeats 800000 in
theorem frame_tf (a : Option Addr) (n : Nat) (Z : Nat → Int) (w : World) (hn : n ≤ 1048576) (hd : Data w a n Z) :
    Calls Try.prog 19 #[.agg #[.bool true, .bool false, .slice a n n]] w fun e w' => e = .returned (.agg #[.int .u8 26, .slice (some ⟨w.heap.size + 1 + 1, 0, none⟩) (1 + n) (1 + n)]) ∧ Below w.heap.size w w' ∧
      w'.rowIs (w.heap.size + 1 + 1) 5 (1 + n) (bodyF 1 Z) := by
  have hmk := make_frame n hn
  obtain ⟨i0, hi0, hz0, hz1, hz2⟩ := info_parts info5
  have F := frame_start w true false a n
  go_enter Try.func19, Try.ntmps19
  go_wp2_with fail
  generalize hWW : ((w.alloc (Obj.cells #[Value.bool true, Value.bool false, Value.slice a n n] 43)).alloc (Obj.cells #[Value.int IntKind.u8 0, Value.slice none 0 0] 41)).alloc (Obj.cells (madeCells #[Value.int IntKind.u8 0] (1 + n)) 5) = W at F ⊢
  clear hWW hmk
  obtain ⟨hB, hS, hC, hR, hrow⟩ := F
  go_region_law (first
    | (refine step_append_into rfl (.tmp 16) (.tmp 18) 22 rfl 5 i0 Try.underlying22 hi0 hz1 (w.heap.size + 1 + 1) 0 (1 + n) (by simp [Act.eval]) (.slice (some ⟨w.heap.size + 1 + 1 + 1, 0, none⟩) 1 1) 1 [.int .u8 1] (by simp [Act.eval]) (by exact src_one hS 1) (fun _ => .int .u8 0) (by exact (hrow.alloc _).drew) (by omega) ?_; intro w1 ho1 hr1; obtain ⟨hb1, hs1, hc1, hR1, hd1⟩ := frame_mid hd hB hS hC hR ho1; have hsrc1 := hd1.src; have hR2 : Hid _ := hR1; clear ho1 hd1 hR1)
    | (refine step_append_into rfl (.tmp 19) (.tmp 21) 22 rfl 5 i0 Try.underlying22 hi0 hz1 (w.heap.size + 1 + 1) 1 (1 + n) (by simp [Act.eval]) (.slice a n n) n (cellsZ Z n) (by simp [Act.eval]) (by exact hsrc1) _ (by exact hr1) (by omega) ?_; intro w2 ho2 hr2; obtain ⟨hb2, c0, c1, f0, f1⟩ := frame_end hb1 hR2.out ho2; clear ho2))
  all_goals go_wp2
  all_goals
    refine bodyPost_ret (v := .agg #[.int .u8 26, .slice (some ⟨w.heap.size + 1 + 1, 0, none⟩) (1 + n) (1 + n)]) ?_ rfl ⟨rfl, ?_, ?_⟩
    · simp [results, Try.results19, go_sem, c0, c1]
    · exact (hb2.setCell (by simp) _).setCell (by simp) _
    · exact ((body_row hr2).setOther (by simp) _).setOther (by simp) _

set_option maxHeartbeats 800000 in
theorem frame_ft (a : Option Addr) (n : Nat) (Z : Nat → Int) (w : World) (hn : n ≤ 1048576) (hd : Data w a n Z) :
    Calls Try.prog 19 #[.agg #[.bool false, .bool true, .slice a n n]] w fun e w' => e = .returned (.agg #[.int .u8 26, .slice (some ⟨w.heap.size + 1 + 1, 0, none⟩) (1 + n) (1 + n)]) ∧ Below w.heap.size w w' ∧
      w'.rowIs (w.heap.size + 1 + 1) 5 (1 + n) (bodyF 2 Z) := by
  have hmk := make_frame n hn
  obtain ⟨i0, hi0, hz0, hz1, hz2⟩ := info_parts info5
  have F := frame_start w false true a n
  go_enter Try.func19, Try.ntmps19
  go_wp2_with fail
  generalize hWW : ((w.alloc (Obj.cells #[Value.bool false, Value.bool true, Value.slice a n n] 43)).alloc (Obj.cells #[Value.int IntKind.u8 0, Value.slice none 0 0] 41)).alloc (Obj.cells (madeCells #[Value.int IntKind.u8 0] (1 + n)) 5) = W at F ⊢
  clear hWW hmk
  obtain ⟨hB, hS, hC, hR, hrow⟩ := F
  go_region_law (first
    | (refine step_append_into rfl (.tmp 16) (.tmp 18) 22 rfl 5 i0 Try.underlying22 hi0 hz1 (w.heap.size + 1 + 1) 0 (1 + n) (by simp [Act.eval]) (.slice (some ⟨w.heap.size + 1 + 1 + 1, 0, none⟩) 1 1) 1 [.int .u8 2] (by simp [Act.eval]) (by exact src_one hS 2) (fun _ => .int .u8 0) (by exact (hrow.alloc _).drew) (by omega) ?_; intro w1 ho1 hr1; obtain ⟨hb1, hs1, hc1, hR1, hd1⟩ := frame_mid hd hB hS hC hR ho1; have hsrc1 := hd1.src; have hR2 : Hid _ := hR1; clear ho1 hd1 hR1)
    | (refine step_append_into rfl (.tmp 19) (.tmp 21) 22 rfl 5 i0 Try.underlying22 hi0 hz1 (w.heap.size + 1 + 1) 1 (1 + n) (by simp [Act.eval]) (.slice a n n) n (cellsZ Z n) (by simp [Act.eval]) (by exact hsrc1) _ (by exact hr1) (by omega) ?_; intro w2 ho2 hr2; obtain ⟨hb2, c0, c1, f0, f1⟩ := frame_end hb1 hR2.out ho2; clear ho2))
  all_goals go_wp2
  all_goals
    refine bodyPost_ret (v := .agg #[.int .u8 26, .slice (some ⟨w.heap.size + 1 + 1, 0, none⟩) (1 + n) (1 + n)]) ?_ rfl ⟨rfl, ?_, ?_⟩
    · simp [results, Try.results19, go_sem, c0, c1]
    · exact (hb2.setCell (by simp) _).setCell (by simp) _
    · exact ((body_row hr2).setOther (by simp) _).setOther (by simp) _

set_option maxHeartbeats 800000 in
theorem frame_tt (a : Option Addr) (n : Nat) (Z : Nat → Int) (w : World) (hn : n ≤ 1048576) (hd : Data w a n Z) :
    Calls Try.prog 19 #[.agg #[.bool true, .bool true, .slice a n n]] w fun e w' => e = .returned (.agg #[.int .u8 26, .slice (some ⟨w.heap.size + 1 + 1, 0, none⟩) (1 + n) (1 + n)]) ∧ Below w.heap.size w w' ∧
      w'.rowIs (w.heap.size + 1 + 1) 5 (1 + n) (bodyF 2 Z) := by
  have hmk := make_frame n hn
  obtain ⟨i0, hi0, hz0, hz1, hz2⟩ := info_parts info5
  have F := frame_start w true true a n
  go_enter Try.func19, Try.ntmps19
  go_wp2_with fail
  generalize hWW : ((w.alloc (Obj.cells #[Value.bool true, Value.bool true, Value.slice a n n] 43)).alloc (Obj.cells #[Value.int IntKind.u8 0, Value.slice none 0 0] 41)).alloc (Obj.cells (madeCells #[Value.int IntKind.u8 0] (1 + n)) 5) = W at F ⊢
  clear hWW hmk
  obtain ⟨hB, hS, hC, hR, hrow⟩ := F
  go_region_law (first
    | (refine step_append_into rfl (.tmp 16) (.tmp 18) 22 rfl 5 i0 Try.underlying22 hi0 hz1 (w.heap.size + 1 + 1) 0 (1 + n) (by simp [Act.eval]) (.slice (some ⟨w.heap.size + 1 + 1 + 1, 0, none⟩) 1 1) 1 [.int .u8 2] (by simp [Act.eval]) (by exact src_one hS 2) (fun _ => .int .u8 0) (by exact (hrow.alloc _).drew) (by omega) ?_; intro w1 ho1 hr1; obtain ⟨hb1, hs1, hc1, hR1, hd1⟩ := frame_mid hd hB hS hC hR ho1; have hsrc1 := hd1.src; have hR2 : Hid _ := hR1; clear ho1 hd1 hR1)
    | (refine step_append_into rfl (.tmp 19) (.tmp 21) 22 rfl 5 i0 Try.underlying22 hi0 hz1 (w.heap.size + 1 + 1) 1 (1 + n) (by simp [Act.eval]) (.slice a n n) n (cellsZ Z n) (by simp [Act.eval]) (by exact hsrc1) _ (by exact hr1) (by omega) ?_; intro w2 ho2 hr2; obtain ⟨hb2, c0, c1, f0, f1⟩ := frame_end hb1 hR2.out ho2; clear ho2))
  all_goals go_wp2
  all_goals
    refine bodyPost_ret (v := .agg #[.int .u8 26, .slice (some ⟨w.heap.size + 1 + 1, 0, none⟩) (1 + n) (1 + n)]) ?_ rfl ⟨rfl, ?_, ?_⟩
    · simp [results, Try.results19, go_sem, c0, c1]
    · exact (hb2.setCell (by simp) _).setCell (by simp) _
    · exact ((body_row hr2).setOther (by simp) _).setOther (by simp) _

end Go.Proofs.Qxb6602502a
