/-
  Rows of runes: what an argument gives, what the call's own rows hold, and the contracts of zzEncode and ZZtruncate in the form that the two laws take.
-/
import Derived.Laws.CopyOwn
import Derived.Laws.AppendOwnNone
import Derived.Test.Qxb6618926aEncode
namespace Go.Proofs.Qxb6618926a
open Go.RowKit

/-- The cells of a row of runes. -/
def cellsOf (f : Nat → R32) (n : Nat) : List Value := (upto f n).map fun x => Value.int .i32 x.1

theorem cellsOf_length (f : Nat → R32) (n : Nat) : (cellsOf f n).length = n := by simp [cellsOf, upto]
theorem cellsOf_get? (f : Nat → R32) (n j : Nat) (hj : j < n) : (cellsOf f n)[j]? = some (.int .i32 (f j).1) := by simp [cellsOf, upto, hj]
theorem cellsOf_some {f : Nat → R32} {n j : Nat} {u : Value} (h : (cellsOf f n)[j]? = some u) : j < n ∧ u = .int .i32 (f j).1 := by
  have hj : j < n := by
    have := (List.getElem?_eq_some_iff.1 h).1
    rwa [cellsOf_length] at this
  rw [cellsOf_get? f n j hj] at h
  exact ⟨hj, (Option.some.inj h).symm⟩
theorem cellsOf_one (f : Nat → R32) (n : Nat) : ∀ u ∈ cellsOf f n, u.oneCell' = true := by
  intro u hu
  simp only [cellsOf, List.mem_map] at hu
  obtain ⟨x, _, rfl⟩ := hu
  rfl

/-- One row behind the other. -/
def join (f0 : Nat → R32) (n0 : Nat) (f1 : Nat → R32) : Nat → R32 := fun j => if j < n0 then f0 j else f1 (j - n0)
theorem upto_join (f0 : Nat → R32) (n0 : Nat) (f1 : Nat → R32) (n1 : Nat) : upto (join f0 n0 f1) (n0 + n1) = upto f0 n0 ++ upto f1 n1 := by
  induction n1 with
  | zero =>
    simp only [Nat.add_zero, upto, List.range_zero, List.map_nil, List.append_nil]
    apply List.map_congr_left
    intro j hj
    simp [join, List.mem_range.1 hj]
  | succ n ih =>
    rw [← Nat.add_assoc, upto_succ, ih, upto_succ, List.append_assoc]
    have h : ¬ n0 + n < n0 := by omega
    simp [join, h]
theorem cellsOf_join (f0 : Nat → R32) (n0 : Nat) (f1 : Nat → R32) (n1 : Nat) : cellsOf f0 n0 ++ cellsOf f1 n1 = cellsOf (join f0 n0 f1) (n0 + n1) := by
  simp [cellsOf, upto_join]
theorem vals_join (f0 : Nat → R32) (n0 : Nat) (f1 : Nat → R32) (n1 : Nat) : vals (upto (join f0 n0 f1) (n0 + n1)) = vals (upto f0 n0) ++ vals (upto f1 n1) := by
  simp [vals, upto_join]

/-- What is known of a slice of runes that came in. -/
structure View (w : World) (a : Option Addr) (len cap : Nat) (f : Nat → R32) : Prop where
  le : len ≤ maxLen
  nil : a = none → len = 0 ∧ cap = 0
  cell : ∀ ad, a = some ad → ∀ j, j < len → (ad.add j).block < w.heap.size ∧ w.cell? (ad.add j) = some (.int .i32 (f j).1)

theorem lt_of_cell {w : World} {p : Addr} {v : Value} (h : w.cell? p = some v) : p.block < w.heap.size := by
  unfold World.cell? at h
  by_cases hb : p.block < w.heap.size
  · exact hb
  · simp [Array.getElem?_eq_none (Nat.le_of_not_lt hb)] at h

theorem view_of {w : World} {a : Option Addr} {len cap : Nat} {zs : List Int}
    (h : (a = none ∧ len = 0 ∧ cap = 0 ∧ zs = []) ∨
      ∃ x, a = some x ∧ len ≤ cap ∧ cap ≤ maxLen ∧ zs.length = cap ∧ (∀ i, i < zs.length → w.cell? (x.add i) = some (.int .i32 (zs.getD i 0))) ∧ ∀ n ∈ zs, (Lit.int .i32 n).wf = true) :
    ∃ f, View w a len cap f := by
  rcases h with ⟨rfl, rfl, rfl, _⟩ | ⟨x, rfl, h1, h2, h3, h4, h5⟩
  · exact ⟨fun _ => ⟨0, by omega⟩, ⟨Nat.zero_le _, fun _ => ⟨rfl, rfl⟩, fun _ h => by cases h⟩⟩
  · have hb : ∀ n ∈ zs, -2147483648 ≤ n ∧ n ≤ 2147483647 := fun n hn => by
      have := h5 n hn
      simp [Lit.wf, IntKind.min, IntKind.max, IntKind.bits, IntKind.signed] at this
      omega
    refine ⟨fun j => if hj : j < zs.length then ⟨zs[j], hb _ (List.getElem_mem hj)⟩ else ⟨0, by omega⟩, ⟨by omega, (fun h => by cases h), ?_⟩⟩
    rintro ad had j hj
    cases had
    have hj' : j < zs.length := by omega
    have hc := h4 j hj'
    exact ⟨lt_of_cell hc, by rw [hc]; simp [hj']⟩

/-- A row that the call made whole. -/
theorem heap_of_owns {w : World} {base g n : Nat} {e : TypeId} {xs : List Value} (h : w.ownsRow base e 1 (.slice (some ⟨g, 0, none⟩) n n) n xs) : w.heap[g]? = some (.cells xs.toArray e (0, 0)) := by
  rcases h.2 with ⟨h', _⟩ | ⟨g', cap', cur, h', _, hg, _, _, hs, htake⟩
  · cases h'
  · simp only [Value.slice.injEq, Option.some.injEq, Addr.mk.injEq, and_true, true_and] at h'
    obtain ⟨rfl, rfl⟩ := h'
    have : cur.toList = xs := by
      rw [← htake, List.take_of_length_le (by simp; omega)]
    rw [hg, ← this]

theorem runes_of_heap {w : World} {g n cap n₀ : Nat} {f : Nat → R32} (h : w.heap[g]? = some (.cells (cellsOf f n).toArray 21 (0, 0))) (hg : g < n₀) : Runes n₀ w (.slice (some ⟨g, 0, none⟩) n cap) n f := by
  refine .inr ⟨g, 0, cap, rfl, hg, fun j hj => ?_⟩
  simp only [World.cell?, h, Nat.zero_add, List.getElem?_toArray]
  exact cellsOf_get? f n j hj

theorem runes_of_own {w : World} {base g n cap n₀ : Nat} {f : Nat → R32} (h : w.ownsRow base 21 1 (.slice (some ⟨g, 0, none⟩) n cap) n (cellsOf f n)) (hg : g < n₀) : Runes n₀ w (.slice (some ⟨g, 0, none⟩) n cap) n f := by
  refine .inr ⟨g, 0, cap, rfl, hg, fun j hj => ?_⟩
  rw [Nat.zero_add, h.cellAt j (by omega)]
  exact cellsOf_get? f n j hj

theorem splice_all (cur cs : List Value) (h : cs.length = cur.length) : splice cur 0 cs = cs := by
  simp [splice, h]

/-- zzEncode. -/
theorem encode_any {a : Option Addr} {len cap : Nat} {f : Nat → R32} {E : List UInt8} (hlen : len ≤ 131072) (w : World) (hI : Runes w.heap.size w (.slice a len cap) len f) (hE : enc (vals (upto f len)) = E) :
    Calls Try.prog 6 #[.slice a len cap] w fun e w' => e = .returned (.string ⟨E.toArray⟩) ∧ Below w.heap.size w w' := by
  rcases hI with ⟨h, rfl⟩ | ⟨b, off, cap', h, hb, hc⟩
  · cases h
    subst hE
    exact encode_nil w
  · cases h
    subst hE
    exact encode_some b off len cap f hlen w hb hc

/-- ZZtruncate. -/
theorem zztruncate {a : Option Addr} {len cap : Nat} {f : Nat → R32} {q : List UInt8} {c : Bool} (hlen : len ≤ 131072) (w : World) (hI : Runes w.heap.size w (.slice a len cap) len f) (ht : trunc [] (vals (upto f len)) = (q, c)) :
    Calls Try.prog 7 #[.slice a len cap] w fun e w' => e = .returned (.tuple #[.string ⟨q.toArray⟩, .bool c]) ∧ Below w.heap.size w w' :=
  (zztruncate_any a len cap f (by omega) w hI).mono fun e w' ⟨q', c', he, ht', hb⟩ => by
    rw [ht] at ht'
    cases ht'
    exact ⟨he, hb⟩

end Go.Proofs.Qxb6618926a
