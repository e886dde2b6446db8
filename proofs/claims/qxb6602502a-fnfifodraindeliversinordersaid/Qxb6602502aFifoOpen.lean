/-
  What the two arguments of the queue's laws read as, in the walks' own words.
-/
import Derived.Test.Qxb6602502aFifoE
import Derived.ProofKit
import Derived.OpenShut
import Derived.Deep.Matrix
namespace Go.Proofs.Qxb6602502a
open Go.ChangeShapes Go.WideShapes Go.ChangeAt Go.RowKit

theorem cells3 : Try.prog.cellsOf 3 = 1 := by kernel_rfl
theorem cells5 : Try.prog.cellsOf 5 = 1 := by kernel_rfl
theorem cells22 : Try.prog.cellsOf 22 = 1 := by kernel_rfl

theorem addr_plain {w : World} {x : Addr} {n : Nat} {f : Nat → Value} (hp : 0 < n) (h : ∀ i, i < n → w.cell? (x.add i) = some (f i)) : ∃ b off, x = ⟨b, off, none⟩ ∧ ∀ i, i < n → w.cell? ⟨b, off + i, none⟩ = some (f i) := by
  obtain ⟨b, off, spot⟩ := x
  have hspot : spot = none := by simpa [Addr.add] using World.cell?_spot (h 0 hp)
  subst hspot
  exact ⟨b, off, rfl, fun i hi => by rw [← Go.WideShapes.add_plain]; exact h i hi⟩

variable {H : Type} {enc : TypeId × Value → H} {w : World}

theorem open_senders {fuel : Nat} {a : Option Addr} {n cap : Nat} {x : DataW H × List MemPlace} (h : DataW.trod enc Try.prog w 0 (fun _ => true) true fuel 29 [.slice a n cap] = some x) :
    n ≤ maxLen ∧ ∃ S, CameI w a n cap S := by
  rcases open_ints Try.underlying29 Try.underlying3 cells3 h with ⟨hcs, _⟩ | ⟨x, l, c, zs, hcs, _, hl, hm, hz, _, hcell, _⟩
  · simp at hcs
    obtain ⟨rfl, rfl, rfl⟩ := hcs
    exact ⟨Nat.zero_le _, fun _ => 0, .inl ⟨rfl, rfl, rfl⟩⟩
  · simp at hcs
    obtain ⟨rfl, rfl, rfl⟩ := hcs
    simp only [if_true] at hz
    refine ⟨Nat.le_trans hl hm, fun i => zs.getD i 0, .inr ?_⟩
    by_cases h0 : 0 < n
    · obtain ⟨b, off, rfl, hc⟩ := addr_plain (n := zs.length) (f := fun i => .int .i64 (zs.getD i 0)) (by omega) hcell
      exact ⟨b, off, none, rfl, fun _ => rfl, fun i hi => hc i (by omega)⟩
    · obtain ⟨b, off, spot⟩ := x
      exact ⟨b, off, spot, rfl, fun h => absurd h h0, fun i hi => absurd hi (by omega)⟩

theorem open_datas {fuel : Nat} {a : Option Addr} {n cap : Nat} {x : DataW H × List MemPlace} (h : DataW.trod enc Try.prog w 0 (fun _ => true) true fuel 30 [.slice a n cap] = some x) :
    n ≤ maxLen ∧ ∃ A L C Z, CameD w a n cap A L C Z ∧ ∀ i, i < n → L i ≤ maxLen := by
  rcases Deep.open_int_rows Try.underlying30 Try.underlying22 Try.underlying5 cells22 cells5 h with ⟨hcs, _⟩ | ⟨x, l, c, A, L, C, Z, hcs, _, hl, hm, _, hr⟩
  · simp at hcs
    obtain ⟨rfl, rfl, rfl⟩ := hcs
    exact ⟨Nat.zero_le _, fun _ => none, fun _ => 0, fun _ => 0, fun _ _ => 0, .inl ⟨rfl, rfl, rfl⟩, fun i hi => absurd hi (Nat.not_lt_zero _)⟩
  · simp at hcs
    obtain ⟨rfl, rfl, rfl⟩ := hcs
    refine ⟨Nat.le_trans hl hm, A, L, C, fun r i => (Z r).getD i 0, .inr ?_, fun i hi => Nat.le_trans (hr i (by omega)).2.1 (hr i (by omega)).2.2.1⟩
    have each : ∀ i, i < n → Came w (A i) (L i) (C i) (fun j => (Z i).getD j 0) := by
      intro i hi
      obtain ⟨_, hLC, _, _, _, hnil, hsome⟩ := hr i (by omega)
      cases hA : A i with
      | none => exact .inl ⟨rfl, by have := hnil hA; omega, hnil hA⟩
      | some a' =>
        have hc := (hsome a' hA).2
        refine .inr ?_
        by_cases h0 : 0 < C i
        · obtain ⟨b, off, rfl, hc'⟩ := addr_plain (n := C i) (f := fun j => .int .u8 ((Z i).getD j 0)) h0 hc
          exact ⟨b, off, none, rfl, fun _ => rfl, fun j hj => hc' j (by omega)⟩
        · obtain ⟨b, off, spot⟩ := a'
          exact ⟨b, off, spot, rfl, fun h => absurd h (by omega), fun j hj => absurd hj (by omega)⟩
    by_cases h0 : 0 < n
    · obtain ⟨b, off, rfl, hc⟩ := addr_plain (n := cap) (f := fun i => .slice (A i) (L i) (C i)) (by omega) (fun i hi => (hr i hi).1)
      exact ⟨b, off, none, rfl, fun _ => rfl, fun i hi => ⟨hc i (by omega), each i hi⟩⟩
    · obtain ⟨b, off, spot⟩ := x
      exact ⟨b, off, spot, rfl, fun h => absurd h h0, fun i hi => absurd hi (by omega)⟩

end Go.Proofs.Qxb6602502a
