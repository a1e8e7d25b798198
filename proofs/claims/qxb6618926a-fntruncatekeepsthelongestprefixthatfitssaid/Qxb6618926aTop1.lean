/-
  FnTruncateKeepsAPrefixAndIgnoresWhatFollowsACut (function 3): it returns true, and writes nothing that was there.
-/
import Derived.Laws.Cover3
import Derived.Test.Qxb6618926aViews
namespace Go.Proofs.Qxb6618926a
open Go.RowKit

theorem info21 : (Try.prog.info? 21).map (fun i => (i.zero, i.size, i.bytes)) = some (some (.int .i32 0), 1, 4) := by kernel_rfl
theorem size21 : (Try.prog.info? 21).map (·.size) = some 1 := by kernel_rfl

/-- What the walk's last lines ask, out of the plain law. -/
structure Facts (E q1 q2 : List UInt8) (c1 c2 : Bool) : Prop where
  short : q1.length ≤ 204
  pre : q1 <+: E
  whole : c1 = false → q1 = E ∧ q1 <+: q2
  cut : c1 = true → 200 < E.length ∧ 197 ≤ q1.length ∧ q2 = q1 ∧ c2 = true

theorem enc_length_le (rs : List Int) : (enc rs).length ≤ 4 * rs.length := by
  induction rs with
  | nil => simp [enc]
  | cons r rs ih =>
    have := encLen_le r
    rw [enc_cons, List.length_append, List.length_cons]
    omega

theorem vals_length (f : Nat → R32) (n : Nat) : (vals (upto f n)).length = n := by simp [vals, upto]

theorem trunc_length (rs : List Int) : (trunc [] rs).1.length ≤ 204 := (law1 rs []).1

theorem facts_of (f0 : Nat → R32) (n0 : Nat) (f1 : Nat → R32) (n1 : Nat) {E q1 q2 : List UInt8} {c1 c2 : Bool} (hE : enc (vals (upto f0 n0)) = E) (h1 : trunc [] (vals (upto f0 n0)) = (q1, c1))
    (h2 : trunc [] (vals (upto (join f0 n0 f1) (n0 + n1))) = (q2, c2)) : Facts E q1 q2 c1 c2 := by
  rw [vals_join] at h2
  have h := law1 (vals (upto f0 n0)) (vals (upto f1 n1))
  rw [h1, h2, hE] at h
  exact ⟨h.1, h.2.1, h.2.2.1, h.2.2.2⟩

/-- A row that 'make' has just made. -/
theorem made_row {w : World} {base g n : Nat} {e : TypeId} {z : Array Value} (h : w.ownsRow base e 1 (.slice (some ⟨g, 0, none⟩) n n) n (madeCells z (n * 1)).toList) :
    ∃ cur : List Value, Hid (cur.length = n) ∧ Hid (w.heap[g]? = some (.cells cur.toArray e (0, 0))) :=
  ⟨_, (by simp [size_madeCells] : (madeCells z (n * 1)).toList.length = n), heap_of_owns h⟩

theorem View.cells {w w1 : World} {a : Option Addr} {x : Addr} {len cap : Nat} {f : Nat → R32} {cs : List Value} (v : View w a len cap f) (ha : a = some x) (hb : Below w.heap.size w w1) (hcs : cs = cellsOf f len) : ∀ j u, cs[j]? = some u → w1.cell? (x.add j) = some u := by
  intro j u hj
  rw [hcs] at hj
  obtain ⟨hj', rfl⟩ := cellsOf_some hj
  obtain ⟨h1, h2⟩ := v.cell x ha j hj'
  rw [hb.cell h1, h2]

/-- 'copy(zzc, rs)' into the row that was just made. -/
theorem copy_made {w w1 : World} {x : Addr} {len cap : Nat} {f : Nat → R32} {cur : List Value} (v : View w (some x) len cap f) (hb : Below w.heap.size w w1) (HK : Hid (cur.length = len)) (HG : Hid (w1.heap[w.heap.size]? = some (.cells cur.toArray 21 (0, 0)))) :
    ∃ w2, (Builtin.copy_ #[22, 22] 3 #[.slice (some ⟨w.heap.size, 0, none⟩) len len, .slice (some x) len cap]).run Try.prog w1 = .ok (.int .i64 len) w2 ∧
      Hid (w2.heap[w.heap.size]? = some (.cells (cellsOf f len).toArray 21 (0, 0))) ∧ Below w.heap.size w w2 := by
  have hg := HG.out
  have hk := HK.out
  have h := run_copy_row (P := Try.prog) w1 22 22 3 21 w.heap.size 0 len len x len cap cur.toArray 21 (cellsOf f len) Try.underlying22 size21 hg (by rw [cellsOf_length]; exact (Nat.min_self _).symm) (v.cells rfl hb rfl) (by rw [cellsOf_length]; simp [hk]) (cellsOf_one _ _)
  rw [cellsOf_length] at h
  refine ⟨_, h, ?_, below_setRow hb (Nat.le_refl _) _⟩
  refine (setRow_heap w1 w.heap.size _ _ 21 _ hg).trans ?_
  simp [hk]

theorem src_row {w w2 w3 : World} {len : Nat} {f : Nat → R32} {cs : List Value} (HR : Hid (w2.heap[w.heap.size]? = some (.cells (cellsOf f len).toArray 21 (0, 0)))) (hg : w2.grownBy w3 none) (hcs : cs = cellsOf f len) :
    Below w2.heap.size w2 w3 ∧ Hid (∀ j u, cs[j]? = some u → w3.cell? ((⟨w.heap.size, 0, none⟩ : Addr).add j) = some u) := by
  have hb3 : Below w2.heap.size w2 w3 := (Below.refl _ _).grown hg (Nat.le_refl _) (fun k h => by cases h)
  refine ⟨hb3, fun j u hj => ?_⟩
  have hlt : w.heap.size < w2.heap.size := (Array.getElem?_eq_some_iff.1 HR.out).1
  rw [addr_add, hb3.cell (p := ⟨w.heap.size, j, none⟩) hlt]
  rw [hcs] at hj
  simp only [World.cell?, HR.out, List.getElem?_toArray]
  exact hj

theorem Runes.next {w w' : World} {sv : Value} {len : Nat} {f : Nat → R32} (h : Runes w.heap.size w sv len f) (hb : Below w.heap.size w w') : Runes w'.heap.size w' sv len f := by
  rcases h.below hb with h | ⟨b, off, cap, e, hlt, hc⟩
  · exact .inl h
  · exact .inr ⟨b, off, cap, e, Nat.lt_of_lt_of_le hlt hb.size, hc⟩

/-- The two rows, when both appends are done. -/
theorem rows_made {w w2 w4 w5 : World} {len0 len1 : Nat} {f0 f1 : Nat → R32} {cs ct : List Value} (HR : Hid (w2.heap[w.heap.size]? = some (.cells (cellsOf f0 len0).toArray 21 (0, 0)))) (hb2 : Below w.heap.size w w2) (hb4 : Below w2.heap.size w2 w4)
    (hown : w5.ownsRow w2.heap.size 21 1 (.slice (some ⟨w2.heap.size, 0, none⟩) (len0 + len1) (len0 + len1)) (len0 + len1) (cs ++ ct)) (hg : w4.grownBy w5 (some w2.heap.size)) (hcs : cs = cellsOf f0 len0) (hct : ct = cellsOf f1 len1) :
    Hid (Below w.heap.size w w5 ∧ Runes w5.heap.size w5 (.slice (some ⟨w.heap.size, 0, none⟩) len0 len0) len0 f0 ∧ Runes w5.heap.size w5 (.slice (some ⟨w2.heap.size, 0, none⟩) (len0 + len1) (len0 + len1)) (len0 + len1) (join f0 len0 f1)) := by
  have hb5 : Below w2.heap.size w2 w5 := hb4.grown hg hb4.size (fun k hk => by cases hk; exact Nat.le_refl _)
  have hlt : w.heap.size < w2.heap.size := (Array.getElem?_eq_some_iff.1 HR.out).1
  have hs := hb5.size
  refine ⟨hb2.trans (hb5.mono hb2.size), ?_, ?_⟩
  · exact runes_of_heap ((hb5.block _ hlt).trans HR.out) (by omega)
  · rw [hcs, hct, cellsOf_join] at hown
    refine runes_of_own hown ?_
    rcases hown.2 with ⟨h', _⟩ | ⟨g', cap', cur, h', _, hg', _⟩
    · cases h'
    · simp only [Value.slice.injEq, Option.some.injEq, Addr.mk.injEq, and_true, true_and] at h'
      obtain ⟨rfl, _⟩ := h'
      exact (Array.getElem?_eq_some_iff.1 hg').1

theorem hasPrefix_list (s p : List UInt8) (w : World) (hs : s.length ≤ 262144) (h : p <+: s) :
    Calls Try.prog 8 #[.string ⟨s.toArray⟩, .string ⟨p.toArray⟩] w fun e w' => e = .returned (.bool true) ∧ ∃ n, w' = w.drewN n :=
  hasPrefix_true _ _ _ (by show s.toArray.size ≤ _; simp; omega) h

theorem then3 {B : Nat} {w w5 w6 w7 w8 : World} (h : Below B w w5) (hB : B ≤ w.heap.size) (h6 : Below w5.heap.size w5 w6) (h7 : Below w6.heap.size w6 w7) (h8 : Below w7.heap.size w7 w8) : Below B w w8 := by
  have a := h.size
  have b := h6.size
  have c := h7.size
  exact ((h.trans (h6.mono (by omega))).trans (h7.mono (by omega))).trans (h8.mono (by omega))

set_option maxHeartbeats 4000000 in
set_option maxRecDepth 100000 in
theorem main1_some (x : Addr) (len0 cap0 : Nat) (f0 : Nat → R32) (a1 : Option Addr) (len1 cap1 : Nat) (f1 : Nat → R32) (w : World) (v0 : View w (some x) len0 cap0 f0) (v1 : View w a1 len1 cap1 f1)
    (h0 : len0 ≤ 65536) (h1 : len1 ≤ 65536) :
    Calls Try.prog 3 #[.slice (some x) len0 cap0, .slice a1 len1 cap1] w fun e w' => e = .returned (.bool true) ∧ Below w.heap.size w w' := by
  obtain ⟨i1, hi, hz0, hz1, hz2⟩ := info_parts info21
  obtain ⟨E, hE⟩ : ∃ E, enc (vals (upto f0 len0)) = E := ⟨_, rfl⟩
  obtain ⟨q1, c1, ht1⟩ : ∃ q c, trunc [] (vals (upto f0 len0)) = (q, c) := ⟨_, _, rfl⟩
  obtain ⟨q2, c2, ht2⟩ : ∃ q c, trunc [] (vals (upto (join f0 len0 f1) (len0 + len1))) = (q, c) := ⟨_, _, rfl⟩
  have hF := facts_of f0 len0 f1 len1 hE ht1 ht2
  have hEl : E.length ≤ 262144 := by rw [← hE]; have := enc_length_le (vals (upto f0 len0)); rw [vals_length] at this; omega
  have hq2 : q2.length ≤ 204 := by have := trunc_length (vals (upto (join f0 len0 f1) (len0 + len1))); rw [ht2] at this; exact this
  have HE : Hid (enc (vals (upto f0 len0)) = E) := hE
  have HT1 : Hid (trunc [] (vals (upto f0 len0)) = (q1, c1)) := ht1
  have HT2 : Hid (trunc [] (vals (upto (join f0 len0 f1) (len0 + len1))) = (q2, c2)) := ht2
  clear hE ht1 ht2
  have hs := hF.short
  obtain ⟨cs, hcs⟩ : ∃ cs, cs = cellsOf f0 len0 := ⟨_, rfl⟩
  have hcsl : cs.length = len0 := by rw [hcs, cellsOf_length]
  have HC : Hid (cs = cellsOf f0 len0) := hcs
  have HL : Hid (cs.length = len0) := hcsl
  clear hcs hcsl
  obtain ⟨ct, hct⟩ : ∃ ct, ct = cellsOf f1 len1 := ⟨_, rfl⟩
  have HCT : Hid (ct = cellsOf f1 len1) := hct
  have HLT : Hid (ct.length = len1) := by rw [hct]; exact cellsOf_length _ _
  clear hct
  have hs1 := v1.le
  unfold maxLen at hs1
  have hsum : len0 + len1 ≤ 1048576 := by omega
  have hp1 : q1 <+: E := hF.pre
  have HP1 : Hid (q1 <+: E) := hp1
  clear hp1
  cases c1 with
  | false =>
    obtain ⟨hq, hp2⟩ := hF.whole rfl
    subst hq
    have HP2 : Hid (q1 <+: q2) := hp2
    clear hp2 hF
    go_enter Try.func3, Try.ntmps3
    go_wp2_with (first
      | (go_at_call 5; refine (bytes1_any _ _ _ _ _ _ _ (by omega) (by omega)).mono ?_; rintro e w' ⟨rfl, hw⟩; subst w')
      | (at_make; refine wpList_make_full _ rfl (.tmp 27) (.tmp 27) 22 rfl w.heap.size 21 i1 (.int .i32 0) 1 Try.underlying22 hi hz0 hz1 _ _ _ _ len0 rfl rfl rfl rfl (by rw [hz2]; omega) (by unfold maxLen; omega) (Nat.le_refl _) ?_; intro w1 hown1 hgrow1; obtain ⟨cur, HK, HG1⟩ := made_row hown1; have hb1 : Below w.heap.size w w1 := (Below.refl _ _).grown hgrow1 (Nat.le_refl _) (fun k h => by cases h); clear hown1 hgrow1; obtain ⟨w2, hcp, HR2, hb2⟩ := copy_made v0 hb1 HK HG1; clear HG1 HK)
      | (at_make; refine wpList_make_own _ rfl _ (.tmp 37) 22 rfl w2.heap.size 21 i1 (.int .i32 0) 1 Try.underlying22 hi hz0 hz1 _ _ _ (len0 + len1) rfl rfl (by omega) (by rw [hz2]; omega) (by unfold maxLen; omega) (Nat.le_refl _) ?_; intro w3 hown3 hgrow3; obtain ⟨hb3, HC3⟩ := src_row HR2 hgrow3 HC.out)
      | (at_builtin; refine wpList_append_fits_any _ rfl (.tmp 39) (.tmp 40) 22 rfl w2.heap.size 21 i1 1 Try.underlying22 hi hz1 w2.heap.size 0 (len0 + len1) _ rfl hown3 _ len0 _ cs rfl (by rw [HL.out, Nat.mul_one]) (by intro h; cases h) (by intro ad had; cases had; exact HC3.out) (by rw [HC.out]; exact cellsOf_one _ _) (by omega) ?_; clear hown3 HC3; intro w4 hown4 hgrow4; simp only [Nat.zero_add, List.nil_append] at hown4; have hb4 : Below w2.heap.size w2 w4 := hb3.grown hgrow4 hb3.size (fun k hk => by cases hk; exact Nat.le_refl _); have hb4' : Below w.heap.size w w4 := hb2.trans (hb4.mono hb2.size); clear hgrow3 hgrow4)
      | (at_builtin; refine wpList_append_fits_any _ rfl (.tmp 42) (.tmp 43) 22 rfl w2.heap.size 21 i1 1 Try.underlying22 hi hz1 w2.heap.size len0 (len0 + len1) _ rfl hown4 _ len1 _ ct rfl (by rw [HLT.out, Nat.mul_one]) (by intro h; exact v1.nil h) (by intro ad had; exact v1.cells had hb4' HCT.out) (by rw [HCT.out]; exact cellsOf_one _ _) (by omega) ?_; clear hown4; intro w5 hown5 hgrow5; have HX := rows_made HR2 hb2 hb4 hown5 hgrow5 HC.out HCT.out; clear hown5 hgrow5 hb3 hb4 hb4' hb2 HR2 hcp hb1)
      | (go_at_call 6; refine (encode_any (f := f0) (by omega) _ HX.out.2.1 HE.out).mono ?_; rintro e w6 ⟨rfl, hb6⟩)
      | (go_at_call 7; refine (zztruncate (f := f0) (by omega) _ (HX.out.2.1.next hb6) HT1.out).mono ?_; clear HT1; rintro e w7 ⟨rfl, hb7⟩)
      | (go_at_call 7; refine (zztruncate (f := join f0 len0 f1) (by omega) _ ((HX.out.2.2.next hb6).next hb7) HT2.out).mono ?_; rintro e w8 ⟨rfl, hb8⟩)
      | (go_at_call 8; refine (hasPrefix_list _ _ _ (by omega) HP1.out).mono ?_; clear HP1; rintro e w9 ⟨rfl, n9, rfl⟩)
      | (go_at_call 8; refine (hasPrefix_list _ _ _ (by omega) HP2.out).mono ?_; rintro e w9 ⟨rfl, n10, rfl⟩))
    go_ret
    exact ⟨rfl, below_drewN (then3 HX.out.1 (Nat.le_refl _) hb6 hb7 hb8) _⟩
  | true =>
    obtain ⟨hl1, hl2, hq, hc⟩ := hF.cut rfl
    subst q2
    subst c2
    clear hF
    go_enter Try.func3, Try.ntmps3
    go_wp2_with (first
      | (go_at_call 5; refine (bytes1_any _ _ _ _ _ _ _ (by omega) (by omega)).mono ?_; rintro e w' ⟨rfl, hw⟩; subst w')
      | (at_make; refine wpList_make_full _ rfl (.tmp 27) (.tmp 27) 22 rfl w.heap.size 21 i1 (.int .i32 0) 1 Try.underlying22 hi hz0 hz1 _ _ _ _ len0 rfl rfl rfl rfl (by rw [hz2]; omega) (by unfold maxLen; omega) (Nat.le_refl _) ?_; intro w1 hown1 hgrow1; obtain ⟨cur, HK, HG1⟩ := made_row hown1; have hb1 : Below w.heap.size w w1 := (Below.refl _ _).grown hgrow1 (Nat.le_refl _) (fun k h => by cases h); clear hown1 hgrow1; obtain ⟨w2, hcp, HR2, hb2⟩ := copy_made v0 hb1 HK HG1; clear HG1 HK)
      | (at_make; refine wpList_make_own _ rfl _ (.tmp 37) 22 rfl w2.heap.size 21 i1 (.int .i32 0) 1 Try.underlying22 hi hz0 hz1 _ _ _ (len0 + len1) rfl rfl (by omega) (by rw [hz2]; omega) (by unfold maxLen; omega) (Nat.le_refl _) ?_; intro w3 hown3 hgrow3; obtain ⟨hb3, HC3⟩ := src_row HR2 hgrow3 HC.out)
      | (at_builtin; refine wpList_append_fits_any _ rfl (.tmp 39) (.tmp 40) 22 rfl w2.heap.size 21 i1 1 Try.underlying22 hi hz1 w2.heap.size 0 (len0 + len1) _ rfl hown3 _ len0 _ cs rfl (by rw [HL.out, Nat.mul_one]) (by intro h; cases h) (by intro ad had; cases had; exact HC3.out) (by rw [HC.out]; exact cellsOf_one _ _) (by omega) ?_; clear hown3 HC3; intro w4 hown4 hgrow4; simp only [Nat.zero_add, List.nil_append] at hown4; have hb4 : Below w2.heap.size w2 w4 := hb3.grown hgrow4 hb3.size (fun k hk => by cases hk; exact Nat.le_refl _); have hb4' : Below w.heap.size w w4 := hb2.trans (hb4.mono hb2.size); clear hgrow3 hgrow4)
      | (at_builtin; refine wpList_append_fits_any _ rfl (.tmp 42) (.tmp 43) 22 rfl w2.heap.size 21 i1 1 Try.underlying22 hi hz1 w2.heap.size len0 (len0 + len1) _ rfl hown4 _ len1 _ ct rfl (by rw [HLT.out, Nat.mul_one]) (by intro h; exact v1.nil h) (by intro ad had; exact v1.cells had hb4' HCT.out) (by rw [HCT.out]; exact cellsOf_one _ _) (by omega) ?_; clear hown4; intro w5 hown5 hgrow5; have HX := rows_made HR2 hb2 hb4 hown5 hgrow5 HC.out HCT.out; clear hown5 hgrow5 hb3 hb4 hb4' hb2 HR2 hcp hb1)
      | (go_at_call 6; refine (encode_any (f := f0) (by omega) _ HX.out.2.1 HE.out).mono ?_; rintro e w6 ⟨rfl, hb6⟩)
      | (go_at_call 7; refine (zztruncate (f := f0) (by omega) _ (HX.out.2.1.next hb6) HT1.out).mono ?_; clear HT1; rintro e w7 ⟨rfl, hb7⟩)
      | (go_at_call 7; refine (zztruncate (f := join f0 len0 f1) (by omega) _ ((HX.out.2.2.next hb6).next hb7) HT2.out).mono ?_; rintro e w8 ⟨rfl, hb8⟩)
      | (go_at_call 8; refine (hasPrefix_list _ _ _ (by omega) HP1.out).mono ?_; clear HP1; rintro e w9 ⟨rfl, n9, rfl⟩)
      | (go_at_call 8; refine (hasPrefix_list _ _ _ (by omega) HP2.out).mono ?_; rintro e w9 ⟨rfl, n10, rfl⟩))
    go_ret
    exact ⟨rfl, below_drewN (then3 HX.out.1 (Nat.le_refl _) hb6 hb7 hb8) _⟩

/-- The one row, where 'rs' is nil. -/
theorem row_made {w w4 w5 : World} {len1 : Nat} {f1 : Nat → R32} {ct : List Value} (hb4 : Below w.heap.size w w4)
    (hown : w5.ownsRow w.heap.size 21 1 (.slice (some ⟨w.heap.size, 0, none⟩) len1 len1) len1 ct) (hg : w4.grownBy w5 (some w.heap.size)) (hct : ct = cellsOf f1 len1) :
    Hid (Below w.heap.size w w5 ∧ Runes w5.heap.size w5 (.slice (some ⟨w.heap.size, 0, none⟩) len1 len1) len1 f1) := by
  refine ⟨hb4.grown hg hb4.size (fun k hk => by cases hk; exact Nat.le_refl _), ?_⟩
  rw [hct] at hown
  refine runes_of_own hown ?_
  rcases hown.2 with ⟨h', _⟩ | ⟨g', cap', cur, h', _, hg', _⟩
  · cases h'
  · simp only [Value.slice.injEq, Option.some.injEq, Addr.mk.injEq, and_true, true_and] at h'
    obtain ⟨rfl, _⟩ := h'
    exact (Array.getElem?_eq_some_iff.1 hg').1

set_option maxHeartbeats 4000000 in
set_option maxRecDepth 100000 in
theorem main1_nil (a1 : Option Addr) (len1 cap1 : Nat) (f1 : Nat → R32) (w : World) (v1 : View w a1 len1 cap1 f1) (h1 : len1 ≤ 65536) :
    Calls Try.prog 3 #[.slice none 0 0, .slice a1 len1 cap1] w fun e w' => e = .returned (.bool true) ∧ Below w.heap.size w w' := by
  obtain ⟨i1, hi, hz0, hz1, hz2⟩ := info_parts info21
  obtain ⟨q2, c2, ht2⟩ : ∃ q c, trunc [] (vals (upto f1 len1)) = (q, c) := ⟨_, _, rfl⟩
  have hq2 : q2.length ≤ 204 := by have := trunc_length (vals (upto f1 len1)); rw [ht2] at this; exact this
  have HT1 : Hid (trunc [] (vals (upto f1 0)) = ([], false)) := (rfl : trunc [] (vals (upto f1 0)) = ([], false))
  have HT2 : Hid (trunc [] (vals (upto f1 len1)) = (q2, c2)) := ht2
  have HE : Hid (enc (vals (upto f1 0)) = []) := (rfl : enc (vals (upto f1 0)) = [])
  clear ht2
  have HP1 : Hid (([] : List UInt8) <+: []) := List.prefix_rfl
  have HP2 : Hid (([] : List UInt8) <+: q2) := List.nil_prefix
  obtain ⟨ct, hct⟩ : ∃ ct, ct = cellsOf f1 len1 := ⟨_, rfl⟩
  have HCT : Hid (ct = cellsOf f1 len1) := hct
  have HLT : Hid (ct.length = len1) := by rw [hct]; exact cellsOf_length _ _
  clear hct
  have hs1 := v1.le
  unfold maxLen at hs1
  have hsum : len1 ≤ 1048576 := by omega
  go_enter Try.func3, Try.ntmps3
  go_wp2_with (first
      | (go_at_call 5; refine (bytes1_any _ _ _ _ _ _ _ (by omega) (by omega)).mono ?_; rintro e w' ⟨rfl, hw⟩; subst w')
      | (at_make; refine wpList_make_own _ rfl _ (.tmp 37) 22 rfl w.heap.size 21 i1 (.int .i32 0) 1 Try.underlying22 hi hz0 hz1 _ _ _ len1 rfl rfl (by omega) (by rw [hz2]; omega) (by unfold maxLen; omega) (Nat.le_refl _) ?_; intro w3 hown3 hgrow3; have hb3 : Below w.heap.size w w3 := (Below.refl _ _).grown hgrow3 (Nat.le_refl _) (fun k h => by cases h))
      | (at_builtin; refine wpList_append_fits_any _ rfl (.tmp 39) (.tmp 40) 22 rfl w.heap.size 21 i1 1 Try.underlying22 hi hz1 w.heap.size 0 len1 _ rfl hown3 _ 0 _ [] rfl rfl (by intro h; exact ⟨rfl, rfl⟩) (by intro ad had; cases had) (by intro u hu; cases hu) (by omega) ?_; clear hown3; intro w4 hown4 hgrow4; simp only [Nat.zero_add, List.nil_append] at hown4; have hb4 : Below w.heap.size w w4 := hb3.grown hgrow4 hb3.size (fun k hk => by cases hk; exact Nat.le_refl _); clear hgrow3 hgrow4)
      | (at_builtin; refine wpList_append_fits_any _ rfl (.tmp 42) (.tmp 43) 22 rfl w.heap.size 21 i1 1 Try.underlying22 hi hz1 w.heap.size 0 len1 _ rfl hown4 _ len1 _ ct rfl (by rw [HLT.out, Nat.mul_one]) (by intro h; exact v1.nil h) (by intro ad had; exact v1.cells had hb4 HCT.out) (by rw [HCT.out]; exact cellsOf_one _ _) (by omega) ?_; clear hown4; intro w5 hown5 hgrow5; simp only [Nat.zero_add, List.nil_append] at hown5; have HX := row_made hb4 hown5 hgrow5 HCT.out; clear hown5 hgrow5 hb3 hb4)
      | (go_at_call 6; refine (encode_any (f := f1) (by omega) _ (.inl ⟨rfl, rfl⟩) HE.out).mono ?_; rintro e w6 ⟨rfl, hb6⟩)
      | (go_at_call 7; refine (zztruncate (f := f1) (by omega) _ (.inl ⟨rfl, rfl⟩) HT1.out).mono ?_; clear HT1; rintro e w7 ⟨rfl, hb7⟩)
      | (go_at_call 7; refine (zztruncate (f := f1) (by omega) _ ((HX.out.2.next hb6).next hb7) HT2.out).mono ?_; rintro e w8 ⟨rfl, hb8⟩)
      | (go_at_call 8; refine (hasPrefix_list [] [] _ (by simp) HP1.out).mono ?_; clear HP1; rintro e w9 ⟨rfl, n9, rfl⟩)
      | (go_at_call 8; refine (hasPrefix_list q2 [] _ (by omega) HP2.out).mono ?_; rintro e w9 ⟨rfl, n10, rfl⟩))
  go_ret
  exact ⟨rfl, below_drewN (then3 HX.out.1 (Nat.le_refl _) hb6 hb7 hb8) _⟩

set_option maxHeartbeats 1000000 in
theorem walk1 (a0 : Option Addr) (len0 cap0 : Nat) (f0 : Nat → R32) (a1 : Option Addr) (len1 cap1 : Nat) (f1 : Nat → R32) (w : World) (v0 : View w a0 len0 cap0 f0) (v1 : View w a1 len1 cap1 f1) :
    Calls Try.prog 3 #[.slice a0 len0 cap0, .slice a1 len1 cap1] w fun e w' => e = .returned (.bool true) ∧ Below w.heap.size w w' := by
  have hs0 := v0.le
  have hs1 := v1.le
  unfold maxLen at hs0 hs1
  by_cases hsum : len0 + len1 ≤ 1048576
  · by_cases h0 : len0 ≤ 65536
    · by_cases h1 : len1 ≤ 65536
      · cases a0 with
        | none =>
          obtain ⟨rfl, rfl⟩ := v0.nil rfl
          exact main1_nil a1 len1 cap1 f1 w v1 h1
        | some x => exact main1_some x len0 cap0 f0 a1 len1 cap1 f1 w v0 v1 h0 h1
      · go_enter Try.func3, Try.ntmps3
        go_wp2_with (go_at_call 5; refine (bytes1_any _ _ _ _ _ _ _ (by omega) (by omega)).mono ?_; rintro e w' ⟨rfl, hw⟩; subst w')
        go_ret
        exact ⟨rfl, Below.refl _ _⟩
    · go_enter Try.func3, Try.ntmps3
      go_wp2_with (go_at_call 5; refine (bytes1_any _ _ _ _ _ _ _ (by omega) (by omega)).mono ?_; rintro e w' ⟨rfl, hw⟩; subst w')
      go_ret
      exact ⟨rfl, Below.refl _ _⟩
  · go_enter Try.func3, Try.ntmps3
    go_wp2_with (go_at_call 5; refine (bytes1_any _ _ _ _ _ _ _ (by omega) (by omega)).mono ?_; rintro e w' ⟨rfl, hw⟩; subst w')
    go_ret
    exact ⟨rfl, Below.refl _ _⟩

end Go.Proofs.Qxb6618926a
