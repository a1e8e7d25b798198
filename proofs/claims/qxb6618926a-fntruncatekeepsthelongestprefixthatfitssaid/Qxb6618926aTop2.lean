/-
  FnTruncateKeepsTheLongestPrefixThatFits (function 4): it returns true, and writes nothing that was there.
-/
import Derived.Test.Qxb6618926aTop1
namespace Go.Proofs.Qxb6618926a
open Go.RowKit

/-- A row's head. -/
theorem runes_head {w : World} {g n cap k c' : Nat} {f : Nat → R32} (h : Runes w.heap.size w (.slice (some ⟨g, 0, none⟩) n cap) n f) (hk : k ≤ n) : Runes w.heap.size w (.slice (some ⟨g, 0, none⟩) k c') k f := by
  rcases h with ⟨h, _⟩ | ⟨b, off, cap', e, hlt, hc⟩
  · cases h
  · cases e
    exact .inr ⟨g, 0, c', rfl, hlt, fun j hj => hc j (by omega)⟩

theorem vals_take (f : Nat → R32) {k n : Nat} (hk : k ≤ n) : (vals (upto f n)).take k = vals (upto f k) := by
  simp [vals, upto_take f hk]

theorem vals_get (f : Nat → R32) {k n : Nat} (hk : k < n) : (vals (upto f n))[k]? = some (f k).1 := by
  simp [vals, upto, hk]

/-- What the walk's last lines ask, out of the plain law. -/
theorem law2_at (f : Nat → R32) (len k : Nat) (hk : k ≤ len) (hv : ∀ j, j < len → Lib.validRune (f j).1 = true) (hs : (enc (vals (upto f k))).length ≤ 200)
    (hstop : k < len → 200 < ((enc (vals (upto f k))).length : Int) + (Lib.encodeRune (f k).1).length) :
    trunc [] (vals (upto f len)) = (enc (vals (upto f k)), decide (k < len)) ∧ trunc [] (vals (upto f k)) = (enc (vals (upto f k)), false) ∧ (k < len → trunc [] (vals (upto f (k + 1))) = (enc (vals (upto f k)), true)) := by
  have hvm : ∀ x ∈ vals (upto f len), Lib.validRune x = true := by
    intro x hx
    simp only [vals, upto, List.mem_map, List.mem_range] at hx
    obtain ⟨y, ⟨j, hj, rfl⟩, rfl⟩ := hx
    exact hv j hj
  have h := law2 (vals (upto f len)) k (by rw [vals_length]; exact hk) hvm (by rw [vals_take f hk]; exact hs) (by
    intro x hx
    by_cases hlt : k < len
    · rw [vals_get f hlt] at hx
      cases hx
      rw [vals_take f hk, runeLen_valid _ (hv k hlt)]
      exact hstop hlt
    · rw [List.getElem?_eq_none (by rw [vals_length]; omega)] at hx
      cases hx)
  rw [vals_take f hk, vals_length] at h
  refine ⟨h.1, h.2.1, fun hlt => ?_⟩
  have := h.2.2 hlt
  rwa [vals_take f hlt] at this

theorem cells_of_row {w : World} {g n : Nat} {f : Nat → R32} (h : w.heap[g]? = some (.cells (cellsOf f n).toArray 21 (0, 0))) (j : Nat) (hj : j < n) : w.cell? ⟨g, j, none⟩ = some (.int .i32 (f j).1) := by
  simp only [World.cell?, h, List.getElem?_toArray]
  exact cellsOf_get? f n j hj

theorem encLen_snoc (f : Nat → R32) (k : Nat) : (enc (vals (upto f (k + 1)))).length = (enc (vals (upto f k))).length + (Lib.encodeRune (f k).1).length := by
  rw [upto_succ, vals_snoc, enc_snoc, List.length_append]

theorem then4 {B : Nat} {w w5 w6 w7 w8 w9 : World} (h : Below B w w5) (hB : B ≤ w.heap.size) (h6 : Below w5.heap.size w5 w6) (h7 : Below w6.heap.size w6 w7) (h8 : Below w7.heap.size w7 w8) (h9 : Below w8.heap.size w8 w9) : Below B w w9 := by
  have a := then3 h hB h6 h7 h8
  have b := a.size
  exact a.trans (h9.mono (by omega))

set_option maxHeartbeats 4000000 in
set_option maxRecDepth 100000 in
theorem main2_some (x : Addr) (len cap : Nat) (f : Nat → R32) (w : World) (v0 : View w (some x) len cap f) (h0 : len ≤ 65536) :
    Calls Try.prog 4 #[.slice (some x) len cap] w fun e w' => e = .returned (.bool true) ∧ Below w.heap.size w w' := by
  obtain ⟨i1, hi, hz0, hz1, hz2⟩ := info_parts info21
  have hsum : len ≤ 1048576 := by omega
  go_enter Try.func4, Try.ntmps4
  go_wp2_with (first
    | (go_at_call 9; refine (bytes2_any _ _ _ _ (by omega)).mono ?_; rintro e w' ⟨rfl, hw⟩; subst w')
    | (at_make; refine wpList_make_full _ rfl (.tmp 24) (.tmp 24) 22 rfl w.heap.size 21 i1 (.int .i32 0) 1 Try.underlying22 hi hz0 hz1 _ _ _ _ len rfl rfl rfl rfl (by rw [hz2]; omega) (by unfold maxLen; omega) (Nat.le_refl _) ?_; intro w1 hown1 hgrow1; obtain ⟨cur, HK, HG1⟩ := made_row hown1; have hb1 : Below w.heap.size w w1 := (Below.refl _ _).grown hgrow1 (Nat.le_refl _) (fun k h => by cases h); clear hown1 hgrow1; obtain ⟨w2, hcp, HR2, hb2⟩ := copy_made v0 hb1 HK HG1; clear HG1 HK))
  clear hcp hb1
  go_loop [4] (fun i => ∃ k : Nat, k ≤ len ∧ i = .int .i64 k ∧ ∀ j, j < k → Lib.validRune (f j).1 = true) (fun i => len - (intOf i).toNat)
  case atStart => exact ⟨0, Nat.zero_le _, rfl, fun j hj => by omega⟩
  case round =>
    obtain ⟨k, hk, rfl, hval⟩ := hrel
    have HV : Hid (∀ j, j < k → Lib.validRune (f j).1 = true) := hval
    clear hval
    by_cases hlt : k < len
    · have hcx := cells_of_row HR2.out k hlt
      by_cases hv : Lib.validRune (f k).1 = true
      · go_wp2_with (go_at_call 10; refine (validRune_any _ _).mono ?_; rintro e w' ⟨rfl, hw⟩; subst w')
        go_round
        case rel => exact ⟨k + 1, by omega, by go_num, fun j hj => by rcases (show j < k ∨ j = k by omega) with h | rfl; exact HV.out j h; exact hv⟩
        case measure => simp [intOf]; omega
      · have hv' : Lib.validRune (f k).1 = false := by simpa using hv
        go_wp2_with (go_at_call 10; refine (validRune_any _ _).mono ?_; rintro e w' ⟨rfl, hw⟩; subst w')
        go_ret
        exact ⟨rfl, hb2⟩
    · have hkl : k = len := by omega
      subst k
      clear hlt hk
      go_wp2
      go_loop [5, 6] (fun n z => ∃ m : Nat, m ≤ len ∧ n = .int .i64 m ∧ z = .int .i64 (enc (vals (upto f m))).length ∧ (enc (vals (upto f m))).length ≤ 200) (fun n _ => len - (intOf n).toNat)
      case atStart => exact ⟨0, Nat.zero_le _, rfl, rfl, by simp [enc, vals, upto]⟩
      case round =>
        obtain ⟨m, hm, rfl, rfl, hz⟩ := hrel
        obtain ⟨E, hE⟩ : ∃ E, enc (vals (upto f m)) = E := ⟨_, rfl⟩
        have HE : Hid (enc (vals (upto f m)) = E) := hE
        rw [hE] at hz ⊢
        clear hE
        by_cases hlt : m < len
        · have hcx := cells_of_row HR2.out m hlt
          have hsn := encLen_snoc f m
          rw [HE.out] at hsn
          have HN : Hid ((enc (vals (upto f (m + 1)))).length = E.length + (Lib.encodeRune (f m).1).length) := hsn
          clear hsn
          have hl4 := encLen_le (f m).1
          by_cases hfit : (E.length : Int) + (Lib.encodeRune (f m).1).length ≤ 200
          · go_wp2_with (go_at_call 11; refine (encLen_any _ _).mono ?_; rintro e w' ⟨rfl, hw⟩; subst w')
            go_round
            case rel => exact ⟨m + 1, by omega, by go_num, by rw [HN.out]; go_num, by rw [HN.out]; omega⟩
            case measure => simp [intOf]; omega
          · have hgt : 200 < (E.length : Int) + (Lib.encodeRune (f m).1).length := by omega
            have hL := law2_at f len m hm HV.out (by rw [HE.out]; exact hz) (fun _ => by rw [HE.out]; exact hgt)
            rw [HE.out] at hL
            obtain ⟨t1, t2, t3⟩ := hL
            have HT1 : Hid (trunc [] (vals (upto f len)) = (E, true)) := by rw [decide_eq_true hlt] at t1; exact t1
            have HT2 : Hid (trunc [] (vals (upto f m)) = (E, false)) := t2
            have HT3 : Hid (trunc [] (vals (upto f (m + 1))) = (E, true)) := t3 hlt
            clear t1 t2 t3
            have HX : Hid (Runes w2.heap.size w2 (.slice (some ⟨w.heap.size, 0, none⟩) len len) len f) := runes_of_heap HR2.out (Array.getElem?_eq_some_iff.1 HR2.out).1
            go_wp2_with (first
              | (go_at_call 11; refine (encLen_any _ _).mono ?_; rintro e w' ⟨rfl, hw⟩; subst w')
              | (go_at_call 6; refine (encode_any (f := f) (by omega) _ (runes_head HX.out hm) HE.out).mono ?_; rintro e w6 ⟨rfl, hb6⟩)
              | (go_at_call 7; refine (zztruncate (f := f) (by omega) _ (HX.out.next hb6) HT1.out).mono ?_; clear HT1; rintro e w7 ⟨rfl, hb7⟩)
              | (go_at_call 7; refine (zztruncate (f := f) (by omega) _ (runes_head ((HX.out.next hb6).next hb7) hm) HT2.out).mono ?_; clear HT2; rintro e w8 ⟨rfl, hb8⟩)
              | (go_at_call 7; refine (zztruncate (f := f) (by omega) _ (runes_head (((HX.out.next hb6).next hb7).next hb8) (show m + 1 ≤ len by omega)) HT3.out).mono ?_; rintro e w9 ⟨rfl, hb9⟩))
            go_ret
            exact ⟨rfl, then4 hb2 (Nat.le_refl _) hb6 hb7 hb8 hb9⟩
        · have hml : m = len := by omega
          subst m
          clear hm
          have hL := law2_at f len len (Nat.le_refl _) HV.out (by rw [HE.out]; exact hz) (fun h => absurd h (Nat.lt_irrefl _))
          rw [HE.out] at hL
          have HT1 : Hid (trunc [] (vals (upto f len)) = (E, false)) := hL.2.1
          have HT2 : Hid (trunc [] (vals (upto f len)) = (E, false)) := hL.2.1
          clear hL
          have HX : Hid (Runes w2.heap.size w2 (.slice (some ⟨w.heap.size, 0, none⟩) len len) len f) := runes_of_heap HR2.out (Array.getElem?_eq_some_iff.1 HR2.out).1
          go_wp2_with (first
            | (go_at_call 6; refine (encode_any (f := f) (by omega) _ HX.out HE.out).mono ?_; rintro e w6 ⟨rfl, hb6⟩)
            | (go_at_call 7; refine (zztruncate (f := f) (by omega) _ (HX.out.next hb6) HT1.out).mono ?_; clear HT1; rintro e w7 ⟨rfl, hb7⟩)
            | (go_at_call 7; refine (zztruncate (f := f) (by omega) _ ((HX.out.next hb6).next hb7) HT2.out).mono ?_; clear HT2; rintro e w8 ⟨rfl, hb8⟩))
          go_ret
          exact ⟨rfl, then3 hb2 (Nat.le_refl _) hb6 hb7 hb8⟩

set_option maxHeartbeats 4000000 in
set_option maxRecDepth 100000 in
theorem main2_nil (w : World) :
    Calls Try.prog 4 #[.slice none 0 0] w fun e w' => e = .returned (.bool true) ∧ Below w.heap.size w w' := by
  obtain ⟨f, HT1, HE⟩ : ∃ f : Nat → R32, Hid (trunc [] (vals (upto f 0)) = ([], false)) ∧ Hid (enc (vals (upto f 0)) = []) := ⟨fun _ => ⟨0, by omega⟩, (rfl : trunc [] (vals (upto (fun _ => (⟨0, by omega⟩ : R32)) 0)) = ([], false)), (rfl : enc (vals (upto (fun _ => (⟨0, by omega⟩ : R32)) 0)) = [])⟩
  have HT2 := HT1
  go_enter Try.func4, Try.ntmps4
  go_wp2_with (go_at_call 9; refine (bytes2_any _ _ _ _ (by omega)).mono ?_; rintro e w' ⟨rfl, hw⟩; subst w')
  go_loop [4] (fun i => i = .int .i64 0) (fun _ => 0)
  case atStart => rfl
  case round =>
    subst hrel
    go_wp2
    go_loop [5, 6] (fun n z => n = .int .i64 0 ∧ z = .int .i64 0) (fun _ _ => 0)
    case atStart => exact ⟨rfl, rfl⟩
    case round =>
      obtain ⟨rfl, rfl⟩ := hrel
      go_wp2_with (first
        | (go_at_call 6; refine (encode_any (f := f) (by omega) _ (.inl ⟨rfl, rfl⟩) HE.out).mono ?_; rintro e w6 ⟨rfl, hb6⟩)
        | (go_at_call 7; refine (zztruncate (f := f) (by omega) _ (.inl ⟨rfl, rfl⟩) HT1.out).mono ?_; clear HT1; rintro e w7 ⟨rfl, hb7⟩)
        | (go_at_call 7; refine (zztruncate (f := f) (by omega) _ (.inl ⟨rfl, rfl⟩) HT2.out).mono ?_; clear HT2; rintro e w8 ⟨rfl, hb8⟩))
      go_ret
      exact ⟨rfl, then3 (Below.refl _ _) (Nat.le_refl _) hb6 hb7 hb8⟩

set_option maxHeartbeats 1000000 in
theorem walk2 (a0 : Option Addr) (len0 cap0 : Nat) (f0 : Nat → R32) (w : World) (v0 : View w a0 len0 cap0 f0) :
    Calls Try.prog 4 #[.slice a0 len0 cap0] w fun e w' => e = .returned (.bool true) ∧ Below w.heap.size w w' := by
  have hs0 := v0.le
  unfold maxLen at hs0
  by_cases hsum : len0 ≤ 1048576
  · by_cases h0 : len0 ≤ 65536
    · cases a0 with
      | none =>
        obtain ⟨rfl, rfl⟩ := v0.nil rfl
        exact main2_nil w
      | some x => exact main2_some x len0 cap0 f0 w v0 h0
    · go_enter Try.func4, Try.ntmps4
      go_wp2_with (go_at_call 9; refine (bytes2_any _ _ _ _ (by omega)).mono ?_; rintro e w' ⟨rfl, hw⟩; subst w')
      go_ret
      exact ⟨rfl, Below.refl _ _⟩
  · go_enter Try.func4, Try.ntmps4
    go_wp2_with (go_at_call 9; refine (bytes2_any _ _ _ _ (by omega)).mono ?_; rintro e w' ⟨rfl, hw⟩; subst w')
    go_ret
    exact ⟨rfl, Below.refl _ _⟩

end Go.Proofs.Qxb6618926a
