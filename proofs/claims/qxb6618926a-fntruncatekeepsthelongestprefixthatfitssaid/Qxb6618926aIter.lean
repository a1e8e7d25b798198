/-
  slices.Values at []rune (function 13, its closure 18): the contract of the iterator, turned from the guide's worked text on []int.
-/
import Derived.RangeFuncBox
import Derived.RangeFuncLeaves
import Derived.Shelf.Abstract
import Derived.WalkKit
import Derived.OwnWalkIn
import Derived.TacticsInMore
import Derived.LoopNIn
import Derived.LoopIn
import Derived.Test.Qxb6618926aProg
namespace Go.Proofs.Qxb6618926a
open Go.RowKit Go.Shelf

attribute [local go_sem] Oper.semAt_some

/-- A rune: an integer that fits int32. -/
abbrev R32 := { x : Int // -2147483648 ≤ x ∧ x ≤ 2147483647 }

/-- What has come when k rounds are over: f 0, .., f (k - 1). -/
def upto {α : Type} (f : Nat → α) (k : Nat) : List α := (List.range k).map f
theorem upto_succ {α : Type} (f : Nat → α) (k : Nat) : upto f (k + 1) = upto f k ++ [f k] := by simp [upto, List.range_succ]
theorem upto_length {α : Type} (f : Nat → α) (k : Nat) : (upto f k).length = k := by simp [upto]
theorem upto_take {α : Type} (f : Nat → α) {k n : Nat} (hk : k ≤ n) : upto f k = (upto f n).take k := by
  simp [upto, ← List.map_take, List.take_range, Nat.min_eq_left hk]

set_option maxRecDepth 100000 in
set_option maxHeartbeats 2000000 in
/-- The closure of slices.Values: for every loop body that keeps what lay below n₀. -/
theorem values1_in (F : Fence) (n : Nat) (h18 : F.fn 18) (hro : F.round = none) (hn : 1 ≤ n) (l Bs n₀ b off len cap : Nat) (f : Nat → R32) (hreach : len ≤ 1048576) (hb : b < n₀) (J Jx : List R32 → World → Prop)
    (hY : ∀ pre x W, J pre W → pre.length < len → YieldAt F (n - 1) Try.prog l #[.int .i32 x.1] W fun e W' =>
      (e = .returned (.bool true) ∧ J (pre ++ [x]) W' ∧ Below n₀ W W') ∨ (e = .returned (.bool false) ∧ Jx (pre ++ [x]) W'))
    (W : World) (hBs : W.cell? ⟨Bs, 0, none⟩ = some (.slice (some ⟨b, off, none⟩) len cap)) (hc : ∀ j, j < len → W.cell? ⟨b, off + j, none⟩ = some (.int .i32 (f j).1)) (h0 : J [] W) :
    CallsIn F n Try.prog 18 #[.func (.yield l) #[] #[], .pointer (some ⟨Bs, 0, none⟩)] W fun e W' => (∃ v, e = .returned v) ∧
      ((∃ ys, ys = upto f len ∧ J ys W') ∨ (∃ pre, (∃ k, k ≤ len ∧ pre = upto f k) ∧ Jx pre W')) := by
  refine callsIn_of_wp Try.func18 rfl h18 ?_ hro
  simp only [Try.ntmps18, List.size_toArray, List.length_cons, List.length_nil, Nat.reduceAdd, Nat.reduceSub, Array.replicate_succ, Array.replicate_zero, List.push_toArray, List.append_toArray, List.nil_append, List.cons_append]
  gi_wp2
  gi_loopw [7] (fun i wr => ∃ k : Nat, k ≤ len ∧ i = .int .i64 k ∧ J (upto f k) wr ∧ Below n₀ W wr)
    (fun i _ => len - (intOf i).toNat)
  case atStart => exact ⟨0, Nat.zero_le _, rfl, h0, Below.refl _ _⟩
  case round =>
    obtain ⟨k, hk, rfl, hJs, hnx⟩ := hrel
    have hcx : k < len → wr.cell? ⟨b, off + k, none⟩ = some (.int .i32 (f k).1) := fun h => (hnx.cell (p := ⟨b, off + k, none⟩) hb).trans (hc k h)
    by_cases hlt : k < len
    · obtain ⟨fn, tmps, assign, body, hy, hR⟩ := hY _ (f k) wr hJs (by rw [upto_length]; exact hlt)
      have hcx' := hcx hlt
      gi_wp2
      refine hR.mono ?_
      rintro e W3 (⟨rfl, hJ3, hk3⟩ | ⟨rfl, hJx3⟩)
      · gi_wp2
        go_roundw
        case rel => exact ⟨k + 1, by omega, by simp, by rw [upto_succ]; exact hJ3, hnx.trans hk3⟩
        case measure => simp [intOf]; omega
      · gi_wp2
        refine bodyPost_ret (results_none rfl _ _ _) rfl ?_
        exact ⟨⟨_, rfl⟩, .inr ⟨_, ⟨k + 1, by omega, (upto_succ _ _).symm⟩, hJx3⟩⟩
    · obtain rfl : k = len := by omega
      gi_wp2
      go_end0
      exact ⟨⟨_, rfl⟩, .inl ⟨_, rfl, hJs⟩⟩

/-- The slice value sv holds the runes f 0, .., f (len - 1), in a block below n₀; or it is nil and there are none. -/
def Runes (n₀ : Nat) (W : World) (sv : Value) (len : Nat) (f : Nat → R32) : Prop :=
  (sv = .slice none 0 0 ∧ len = 0) ∨ ∃ b off cap, sv = .slice (some ⟨b, off, none⟩) len cap ∧ b < n₀ ∧ ∀ j, j < len → W.cell? ⟨b, off + j, none⟩ = some (.int .i32 (f j).1)
theorem Runes.below {n₀ : Nat} {A B : World} (h : Below n₀ A B) {sv : Value} {len : Nat} {f : Nat → R32} : Runes n₀ A sv len f → Runes n₀ B sv len f
  | .inl e => .inl e
  | .inr ⟨b, off, cap, e, hb, hc⟩ => .inr ⟨b, off, cap, e, hb, fun j hj => (h.cell (p := ⟨b, off + j, none⟩) hb).trans (hc j hj)⟩

set_option maxRecDepth 100000 in
set_option maxHeartbeats 1000000 in
/-- .. at the nil slice: no round. -/
theorem values1_nil_in (F : Fence) (n : Nat) (h18 : F.fn 18) (hro : F.round = none) (l Bs : Nat) (J : List R32 → World → Prop) (W : World) (hBs : W.cell? ⟨Bs, 0, none⟩ = some (.slice none 0 0)) (h0 : J [] W) :
    CallsIn F n Try.prog 18 #[.func (.yield l) #[] #[], .pointer (some ⟨Bs, 0, none⟩)] W fun e W' => (∃ v, e = .returned v) ∧ J [] W' := by
  refine callsIn_of_wp Try.func18 rfl h18 ?_ hro
  simp only [Try.ntmps18, List.size_toArray, List.length_cons, List.length_nil, Nat.reduceAdd, Nat.reduceSub, Array.replicate_succ, Array.replicate_zero, List.push_toArray, List.append_toArray, List.nil_append, List.cons_append]
  gi_wp2
  gi_loopw [7] (fun i wr => i = .int .i64 0 ∧ J [] wr) (fun _ _ => 0)
  case atStart => exact ⟨rfl, h0⟩
  case round =>
    obtain ⟨rfl, hJs⟩ := hrel
    gi_wp2
    go_end0
    exact ⟨⟨_, rfl⟩, hJs⟩

set_option maxHeartbeats 1000000 in
/-- slices.Values(s): the slice value is boxed; the function value captures the box. -/
theorem values_any (a : Option Addr) (len cap : Nat) (w : World) :
    Calls Try.prog 13 #[.slice a len cap] w fun e w' => e = .returned (.func (.func 18) #[] #[.pointer (some ⟨w.heap.size, 0, none⟩)]) ∧ w' = w.alloc (.cells #[.slice a len cap] 22) := by
  go_enter Try.func13, Try.ntmps13
  go_wp2
  go_ret
  exact ⟨rfl, rfl⟩

/-- slices.Values(s) hands back a value that 'SeqStopsK', at 'Below n₀': all of the runes, in order; or the first k of them. -/
theorem values_stops (F : Fence) (n : Nat) (h18 : F.fn 18) (hro : F.round = none) (hn : 1 ≤ n) (Bs n₀ : Nat) (sv : Value) (len : Nat) (f : Nat → R32) (hreach : len ≤ 1048576) (w : World) (hBs : Bs < w.heap.size) (hn₀ : n₀ ≤ w.heap.size)
    (hc : w.cell? ⟨Bs, 0, none⟩ = some sv) (hI : Runes n₀ w sv len f) :
    SeqStopsK F n Try.prog 18 #[.pointer (some ⟨Bs, 0, none⟩)] (fun x : R32 => #[Value.int .i32 x.1]) (Below n₀) (fun ys => ys = upto f len) (fun pre => ∃ k, k ≤ len ∧ pre = upto f k) len w := fun l J Jx W hW _ _ hY h0 => by
  have hc' := (hW.cell (p := ⟨Bs, 0, none⟩) hBs).trans hc
  rcases hI.below (hW.mono hn₀) with ⟨rfl, rfl⟩ | ⟨b, off, cap, rfl, hb, hcs⟩
  · exact (values1_nil_in F n h18 hro l Bs J W hc' h0).mono fun e W' ⟨he, hj⟩ => ⟨he, .inl ⟨_, rfl, hj⟩⟩
  · exact values1_in F n h18 hro hn l Bs n₀ b off len cap f hreach hb J Jx hY W hc' hcs h0

end Go.Proofs.Qxb6618926a
