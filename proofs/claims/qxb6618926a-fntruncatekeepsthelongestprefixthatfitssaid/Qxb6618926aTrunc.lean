/-
  Truncate (function 12) and ZZtruncate (function 7): what they hand back is 'trunc [] rs'.
-/
import Derived.RangeFuncCalls
import Derived.RangeFuncNested
import Derived.Shelf.RegionOpen
import Derived.Test.Qxb6618926aIter
import Derived.Test.Qxb6618926aShelf
import Derived.Test.Qxb6618926aPlain
namespace Go.Proofs.Qxb6618926a
open Go.RowKit Go.Shelf

attribute [local go_sem] Oper.semAt_some

/-- A builder speaks of cells alone. -/
theorem isBuilderF_own {β : Type} (T e : TypeId) (B b : Nat) (g : β → List Value) : Own (fun s W => Lib.IsBuilderF T e B b (g s) W) := by
  have at_ : ∀ (p : Value) (s : β) (X Y : World) (row : Option Nat), Lib.BuilderAtF T e B b p (g s) X → X.grownBy Y row → (∀ r, row = some r → ∃ o : Obj, X.heap[r]? = some o ∧ o.isCells = false) → Lib.BuilderAtF T e B b p (g s) Y := by
    rintro p s X Y row ⟨hB, v, hb, hown, hne⟩ hg hr
    have hlt : b < X.heap.size := (Array.getElem?_eq_some_iff.1 hb).1
    refine ⟨hB, v, (hg.block b hlt fun e' => ?_).trans hb, hown.kept hg ?_, hne⟩
    · obtain ⟨o, ho, hc⟩ := hr b e'.symm
      rw [hb] at ho; cases ho; cases hc
    · by_cases hn : v.ownBlock = none
      · exact .inl hn
      · refine .inr fun e' => ?_
        obtain ⟨k, hk⟩ : ∃ k, v.ownBlock = some k := Option.ne_none_iff_exists'.1 hn
        obtain ⟨c, fz, hc⟩ := Lib.ownsRowF_kind hown k hk
        obtain ⟨o, ho, hoc⟩ := hr k (by rw [← e', hk])
        rw [hc] at ho; cases ho; cases hoc
  rintro s X Y row h hg hr
  exact h.elim (fun x => .inl (at_ _ s X Y row x hg hr)) (fun x => .inr (at_ _ s X Y row x hg hr))

/-- What the builder's methods keep. -/
theorem keepsOthers_of {T e : TypeId} {B b : Nat} {bs : List Value} {W W' : World} (h : Lib.IsBuilderF T e B b bs W) (hk : Lib.OthersKept e (some b) W W') (hs : W.heap.size ≤ W'.heap.size) : KeepsOthers W W' := by
  have hb : ∃ cs, W.heap[b]? = some (.cells cs T (0, 0)) := by
    rcases h with ⟨_, v, hb, _⟩ | ⟨_, v, hb, _⟩ <;> exact ⟨_, hb⟩
  obtain ⟨cs, hb⟩ := hb
  refine ⟨hs, fun k o hko ho => hk k o hko (fun e' => ?_) (fun c fz e' => ?_)⟩
  · cases e'; rw [hb] at hko; cases hko; cases ho
  · subst e'; cases ho

theorem runeLen_bd (x : Int) : -1 ≤ Lib.runeLen x ∧ Lib.runeLen x ≤ 4 := by
  rcases runeLen_cases x with h | ⟨h, _⟩ <;> have := encLen_le x <;> omega

theorem builder_len' (B b : Nat) (l : List UInt8) (w : World) (h : Lib.IsBuilderF 39 5 B b (Lib.byteCells l) w) :
    Calls Try.prog 14 #[.pointer (some ⟨b, 0, none⟩)] w fun e w' => e = .returned (.int .i64 l.length) ∧ w' = w := by
  have := builder_len B b (Lib.byteCells l) w h
  rwa [Lib.byteCells_length] at this

theorem Boxed.below {W W' : World} {B n₀ : Nat} {t : TypeId} {v : Value} (h : Boxed W B t v) (hB : Below n₀ W W') (hlt : B < n₀) : Boxed W' B t v := (hB.block B hlt).trans h

/-- The numbers of a row of runes. -/
def vals (pre : List R32) : List Int := pre.map fun x => x.1
theorem vals_snoc (pre : List R32) (x : R32) : vals (pre ++ [x]) = vals pre ++ [x.1] := by simp [vals]

set_option maxRecDepth 100000 in
set_option maxHeartbeats 2000000 in
theorem truncate_any (Bs len : Nat) (sv : Value) (f : Nat → R32) (hreach : len ≤ 1048576) (w : World) (hBs : Bs < w.heap.size) (hc : w.cell? ⟨Bs, 0, none⟩ = some sv) (hI : Runes w.heap.size w sv len f) :
    Calls Try.prog 12 #[.func (.func 18) #[] #[.pointer (some ⟨Bs, 0, none⟩)]] w fun e W' =>
      ∃ q c, e = .returned (.tuple #[.string ⟨q.toArray⟩, .bool c]) ∧ trunc [] (vals (upto f len)) = (q, c) ∧ Below w.heap.size w W' := by
  refine (callsIn_wide (n := 3)).1 ?_
  refine callsIn_of_wp_marks Try.func12 rfl trivial ?_ rfl
  simp only [Try.ntmps12, List.size_toArray, List.length_cons, List.length_nil, Nat.reduceAdd, Nat.reduceSub, Array.replicate_succ, Array.replicate_zero, List.push_toArray, List.append_toArray, List.nil_append, List.cons_append]
  gi_wp2
  have bQ := ((Boxed.new w 9 (.string ⟨#[]⟩)).alloc (.cells #[.bool false] 4)).alloc (.cells #[.pointer none, .slice none 0 0] 39)
  have bC := (Boxed.new (w.alloc (.cells #[.string ⟨#[]⟩] 9)) 4 (.bool false)).alloc (.cells #[.pointer none, .slice none 0 0] 39)
  have bB := Lib.IsBuilderF.of (Lib.fresh_isBuilder 39 5 ((w.alloc (.cells #[.string ⟨#[]⟩] 9)).alloc (.cells #[.bool false] 4)))
  simp only [World.size_alloc] at bC bB
  obtain ⟨W0, hW0⟩ : ∃ W0, (((w.alloc (.cells #[.string ⟨#[]⟩] 9)).alloc (.cells #[.bool false] 4)).alloc (.cells #[.pointer none, .slice none 0 0] 39)) = W0 := ⟨_, rfl⟩
  have hB0 : Below w.heap.size w W0 := by rw [← hW0]; exact (((Below.refl _ w).alloc (Nat.le_refl _) _).alloc (by simp) _).alloc (by simp; omega) _
  have hsz : W0.heap.size = w.heap.size + 1 + 1 + 1 := by rw [← hW0]; simp
  rw [hW0] at bQ bC bB ⊢
  refine wpIn_rangeFunc_ownG rfl (by omega) (gf := 18) (lb := #[.pointer (some ⟨Bs, 0, none⟩)]) rfl trivial (enters_of Try.func18 (by kernel_rfl) rfl)
    (values_stops Fence.wide _ trivial rfl (by omega) Bs w.heap.size sv len f hreach W0 (by omega) (by omega) ((hB0.cell (p := ⟨Bs, 0, none⟩) hBs).trans hc) (hI.below hB0)) belowK_t (belowK_b (by omega)) (Below.refl _ _) (fun _ => rfl)
    (fun pre W => (fits [] (vals pre) = true ∧ Lib.IsBuilderF 39 5 (w.heap.size + 1 + 1) (w.heap.size + 1 + 1) (Lib.byteCells (enc (vals pre))) W) ∧ Below (w.heap.size + 1 + 1) W0 W)
    (fun c pre W => (c = .ret ∧ ∃ ini last, vals pre = ini ++ [last] ∧ fits [] ini = true ∧ 200 < ((enc ini).length : Int) + Lib.runeLen last ∧ W.cell? ⟨w.heap.size, 0, none⟩ = some (.string ⟨(enc ini).toArray⟩) ∧ W.cell? ⟨w.heap.size + 1, 0, none⟩ = some (.bool true)) ∧ Below w.heap.size w W)
    (OwnFrom.and (OwnFrom.and (ownFrom_pure _ _) (Own.from (isBuilderF_own _ _ _ _ _) _)) (ownFrom_below (by omega) (by omega)))
    (fun c => OwnFrom.and (Own.from (fun s A B row hs hg hr => by obtain ⟨hc, ini, last, e1, e2, e3, e4, e5⟩ := hs; exact ⟨hc, ini, last, e1, e2, e3, cell_kept e4 hg hr, cell_kept e5 hg hr⟩) _) (ownFrom_below (Nat.le_refl _) (by omega)))
    ⟨⟨rfl, bB⟩, Below.refl _ _⟩
    (fun x => { tmps := #[.func (.func 18) #[] #[.pointer (some ⟨Bs, 0, none⟩)], undef, .pointer (some ⟨w.heap.size, 0, none⟩), .pointer (some ⟨w.heap.size + 1, 0, none⟩), .pointer (some ⟨w.heap.size + 1 + 1, 0, none⟩), .int .i32 x.1, .func (.func 18) #[] #[.pointer (some ⟨Bs, 0, none⟩)], .int .i32 x.1, undef, undef, undef, undef, undef, undef, undef, undef, undef], defers := [] }) ?assign ?body ?done ?stop
  case assign =>
    intro l x W K hK
    gi_wp2
    exact hK
  case body =>
    rintro l pre x W ⟨⟨hfit, hb⟩, hB⟩ _
    have hl := fits_length _ hfit
    have hr := runeLen_bd x.1
    obtain ⟨hx0, hx1⟩ := x.2
    have bq := Boxed.below bQ hB (by omega)
    have bc := Boxed.below bC hB (by omega)
    have hWz := hB.size
    obtain ⟨acc, hacc⟩ : ∃ acc, enc (vals pre) = acc := ⟨_, rfl⟩
    rw [hacc] at hb hl
    by_cases hcut : 200 < (acc.length : Int) + Lib.runeLen x.1
    · have HA : Hid (enc (vals pre) = acc) := hacc
      clear hacc
      gi_wp2_with (first
        | (refine ⟨trivial, ?_⟩; gi_at_call 14; refine (CallsIn.inRound l (callsIn_wide.2 (builder_len' _ _ acc _ hb))).mono ?_; rintro e w' ⟨rfl, rfl⟩)
        | (refine ⟨trivial, ?_⟩; gi_at_call 15; refine (CallsIn.inRound l (callsIn_wide.2 (runeLen_any _ _))).mono ?_; rintro e w' ⟨rfl, rfl⟩)
        | (refine ⟨trivial, ?_⟩; gi_at_call 16; refine (CallsIn.inRound l (callsIn_wide.2 (builder_string _ _ acc _ hb (by omega)))).mono ?_; rintro e W1 ⟨rfl, h1, b1, k1⟩; have bq1 := Boxed.below bq b1 (by omega); have bc1 := Boxed.below bc b1 (by omega); have cq1 := bq1.cell; have fq1 := bq1.frozen; have cc1 := bc1.cell; have fc1 := bc1.frozen))
      have q3 := (bq1.set (.string ⟨acc.toArray⟩)).other (B' := w.heap.size + 1) (by omega) (.bool true)
      have c3 := (bc1.other (B' := w.heap.size) (by omega) (.string ⟨acc.toArray⟩)).set (.bool true)
      refine ⟨(((keepsOthers_of hb k1 b1.size).trans (KeepsOthers.setCell _ _ _)).trans (KeepsOthers.setCell _ _ _)).from _, ⟨rfl, vals pre, x.1, vals_snoc _ _, hfit, by rw [HA.out]; exact hcut, by rw [HA.out]; exact q3.cell, c3.cell⟩, ?_⟩
      exact (((hB0.trans (hB.mono (by omega))).trans (b1.mono (by omega))).setCell (p := ⟨w.heap.size, 0, none⟩) (Nat.le_refl _) _).setCell (p := ⟨w.heap.size + 1, 0, none⟩) (by simp) _
    · have HA : Hid (enc (vals pre) = acc) := hacc
      clear hacc
      have hcut' : (acc.length : Int) + Lib.runeLen x.1 ≤ 200 := by omega
      gi_wp2_with (first
        | (refine ⟨trivial, ?_⟩; gi_at_call 14; refine (CallsIn.inRound l (callsIn_wide.2 (builder_len' _ _ acc _ hb))).mono ?_; rintro e w' ⟨rfl, rfl⟩)
        | (refine ⟨trivial, ?_⟩; gi_at_call 15; refine (CallsIn.inRound l (callsIn_wide.2 (runeLen_any _ _))).mono ?_; rintro e w' ⟨rfl, rfl⟩)
        | (refine ⟨trivial, ?_⟩; gi_at_call 17; refine (CallsIn.inRound l (callsIn_wide.2 (builder_writeRune _ _ (Lib.byteCells acc) _ hx0 hx1 _ hb (by rw [Lib.byteCells_length]; omega) (by omega)))).mono ?_; rintro e W1 ⟨rfl, h1, b1, k1⟩))
      refine ⟨(keepsOthers_of hb k1 b1.size).from _, b1.mono (by omega), ⟨?_, ?_⟩, hB.trans b1⟩
      · rw [vals_snoc, fits_snoc, hfit, List.nil_append, HA.out]
        simpa using hcut'
      · rw [vals_snoc, enc_snoc, HA.out, Lib.byteCells_append, Lib.byteCells_encodeRune]
        exact .inr h1
  case done =>
    rintro D ys W hD rfl ⟨⟨hfit, hb⟩, hB⟩ hK
    have bq := Boxed.below bQ hB (by omega)
    have bc := Boxed.below bC hB (by omega)
    have hWz := hB.size
    have ht := trunc_fits _ _ hfit
    rw [List.nil_append] at ht
    obtain ⟨acc, hacc⟩ : ∃ acc, enc (vals (upto f len)) = acc := ⟨_, rfl⟩
    rw [hacc] at hb ht
    clear hacc
    have HT : Hid (trunc [] (vals (upto f len)) = (acc, false)) := ht
    clear ht
    gi_wp2_with (refine ⟨trivial, ?_⟩; gi_at_call 16; refine (callsIn_wide.2 (builder_string _ _ acc _ hb (by omega))).mono ?_; rintro e W1 ⟨rfl, h1, b1, k1⟩; have bq1 := Boxed.below bq b1 (by omega); have bc1 := Boxed.below bc b1 (by omega); have cq1 := bq1.cell; have fq1 := bq1.frozen; have cc1 := bc1.cell; have fc1 := bc1.frozen)
    have hK1 := (((keepsOthers_of hb k1 b1.size).trans (KeepsOthers.setCell W1 ⟨w.heap.size, 0, none⟩ (.string ⟨acc.toArray⟩))).trans (KeepsOthers.setCell _ ⟨w.heap.size + 1, 0, none⟩ (.bool false))).same D _ hK rfl
    refine ⟨by simp, .inl ⟨_, _, rfl, run_takeDeferred hK1, ?_⟩⟩
    have q3 := (bq1.set (.string ⟨acc.toArray⟩)).other (B' := w.heap.size + 1) (by omega) (.bool false)
    have c3 := (bc1.other (B' := w.heap.size) (by omega) (.string ⟨acc.toArray⟩)).set (.bool false)
    have hc4 := cell_kept q3.cell (grownBy_putObj' _ D (.deferred none)) (fun r e => by cases e; exact ⟨_, hK1, rfl⟩)
    have hc5 := cell_kept c3.cell (grownBy_putObj' _ D (.deferred none)) (fun r e => by cases e; exact ⟨_, hK1, rfl⟩)
    refine ⟨.tuple #[.string ⟨acc.toArray⟩, .bool false], ?_, _, _, rfl, HT.out, ?_⟩
    · simp [results, Try.f12, go_sem, hc4, hc5]
    · exact ((((hB0.trans (hB.mono (by omega))).trans (b1.mono (by omega))).setCell (p := ⟨w.heap.size, 0, none⟩) (Nat.le_refl _) _).setCell (p := ⟨w.heap.size + 1, 0, none⟩) (by simp) _).trans (belowK_b (w := w) (Nat.le_refl _) _ D _ _ (by omega) hK1 rfl rfl)
  case stop =>
    rintro D c pre W hD ⟨k, hk, rfl⟩ ⟨⟨rfl, ini, last, e1, e2, e3, e4, e5⟩, hB⟩ hK
    have hz : vals (upto f len) = ini ++ last :: (vals (upto f len)).drop k := by
      have h1 : vals (upto f k) = (vals (upto f len)).take k := by simp [vals, upto_take f hk]
      rw [show ini ++ last :: (vals (upto f len)).drop k = (ini ++ [last]) ++ (vals (upto f len)).drop k by simp, ← e1, h1, List.take_append_drop]
    have HT : Hid (trunc [] (vals (upto f len)) = (enc ini, true)) := by
      refine (?_ : trunc [] (vals (upto f len)) = (enc ini, true))
      rw [hz]
      exact trunc_cut [] ini last _ e2 (by simpa using e3)
    clear hz
    gi_wp2
    refine ⟨by simp, .inl ⟨_, _, rfl, run_takeDeferred hK, ?_⟩⟩
    have hc4 := cell_kept e4 (grownBy_putObj' _ D (.deferred none)) (fun r e => by cases e; exact ⟨_, hK, rfl⟩)
    have hc5 := cell_kept e5 (grownBy_putObj' _ D (.deferred none)) (fun r e => by cases e; exact ⟨_, hK, rfl⟩)
    refine ⟨.tuple #[.string ⟨(enc ini).toArray⟩, .bool true], ?_, _, _, rfl, HT.out, hB.trans (belowK_b (w := w) (Nat.le_refl _) W D _ _ (by omega) hK rfl rfl)⟩
    simp [results, Try.f12, go_sem, hc4, hc5]

set_option maxHeartbeats 1000000 in
/-- ZZtruncate at whatever row of runes that lies below: what Truncate keeps of it, and whether it cut. -/
theorem zztruncate_any (a : Option Addr) (len cap : Nat) (f : Nat → R32) (hreach : len ≤ 1048576) (w : World) (hI : Runes w.heap.size w (.slice a len cap) len f) :
    Calls Try.prog 7 #[.slice a len cap] w fun e W' =>
      ∃ q c, e = .returned (.tuple #[.string ⟨q.toArray⟩, .bool c]) ∧ trunc [] (vals (upto f len)) = (q, c) ∧ Below w.heap.size w W' := by
  have hb0 : Below w.heap.size w (w.alloc (.cells #[.slice a len cap] 22)) := (Below.refl _ w).alloc (Nat.le_refl _) _
  have hc0 := (Boxed.new w 22 (.slice a len cap)).cell
  have hI' : Runes (w.alloc (.cells #[.slice a len cap] 22)).heap.size (w.alloc (.cells #[.slice a len cap] 22)) (.slice a len cap) len f := by
    rcases hI.below hb0 with h | ⟨b, off, cap', e, hb, hcs⟩
    · exact .inl h
    · exact .inr ⟨b, off, cap', e, by simp; omega, hcs⟩
  go_enter Try.func7, Try.ntmps7
  go_wp2_with (first
    | (go_at_call 13; refine (values_any _ _ _ _).mono ?_; rintro e w' ⟨rfl, rfl⟩)
    | (go_at_call 12; refine (truncate_any w.heap.size len (.slice a len cap) f hreach _ (by simp) hc0 hI').mono ?_; rintro e w' ⟨q, c, rfl, ht, hb⟩; have HT : Hid (trunc [] (vals (upto f len)) = (q, c)) := ht; clear ht))
  go_ret2
  exact ⟨_, _, rfl, HT.out, hb0.trans (hb.mono (by simp))⟩

end Go.Proofs.Qxb6618926a
