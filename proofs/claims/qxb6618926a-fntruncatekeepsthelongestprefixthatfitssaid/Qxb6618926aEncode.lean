/-
  zzEncode (function 6): what it hands back is 'enc rs'.
-/
import Derived.WalkKit
import Derived.ProofKit
import Derived.Laws.OwnMore
import Derived.Laws.IdiomStrings
import Derived.Laws.Bits128
import Derived.Test.Qxb6618926aTrunc
import Derived.Test.Qxb6618926aSmall
namespace Go.Proofs.Qxb6618926a
open Go.RowKit

theorem info5 : (Try.prog.info? 5).map (fun i => (i.zero, i.size, i.bytes)) = some (some (.int .u8 0), 1, 1) := by kernel_rfl

theorem i32_and63 (n : Int) : bits .and .i32 n 63 = n % 64 := by
  have h63 : (BitVec.ofInt 32 63).toNat = 2 ^ 6 - 1 := by decide
  have key : (BitVec.ofInt 32 n &&& BitVec.ofInt 32 63).toNat = (n % ((2 ^ 32 : Nat) : Int)).toNat % 2 ^ 6 := by
    rw [BitVec.toNat_and, BitVec.toNat_ofInt, h63, Nat.and_two_pow_sub_one_eq_mod]
  show IntKind.i32.wrap ((BitVec.ofInt 32 n &&& BitVec.ofInt 32 63).toNat : Nat) = n % 64
  rw [key, IntKind.wrap_i32]
  omega

attribute [local go_sem] i32_and63

theorem i32_or224 (y : Int) (h0 : 0 ≤ y) (h1 : y < 16) : bits .or .i32 224 y % 256 = 224 + y := by
  rw [bits_join .i32 31 (by decide) wraps_i32 4 224 y (by decide) (by decide) (by decide) h0 h1 (by omega)]
  omega
theorem i32_or240 (y : Int) (h0 : 0 ≤ y) (h1 : y < 16) : bits .or .i32 240 y % 256 = 240 + y := by
  rw [bits_join .i32 31 (by decide) wraps_i32 4 240 y (by decide) (by decide) (by decide) h0 h1 (by omega)]
  omega
theorem i32_or_bad : bits .or .i32 224 15 % 256 = 239 := by decide

theorem addr_add (g j : Nat) : (⟨g, 0, none⟩ : Addr).add j = ⟨g, j, none⟩ := by
  unfold Addr.add
  by_cases h : j = 0 <;> simp [h]

/-- The bytes of one rune more. -/
theorem enc_step (f : Nat → R32) (k : Nat) {acc : List UInt8} {r : Int} {news : List Value} (ha : enc (vals (upto f k)) = acc) (hr : (f k).1 = r) (hn : news = Lib.runeCells r) :
    Lib.byteCells acc ++ news = Lib.byteCells (enc (vals (upto f (k + 1)))) := by
  rw [upto_succ, vals_snoc, enc_snoc, ha, hr, Lib.byteCells_append, Lib.byteCells_encodeRune, hn]

set_option maxHeartbeats 4000000 in
set_option maxRecDepth 100000 in
theorem encode_some (b off len cap : Nat) (f : Nat → R32) (hlen : len ≤ 131072) (w : World) (hb : b < w.heap.size) (hc : ∀ j, j < len → w.cell? ⟨b, off + j, none⟩ = some (.int .i32 (f j).1)) :
    Calls Try.prog 6 #[.slice (some ⟨b, off, none⟩) len cap] w fun e w' => e = .returned (.string ⟨(enc (vals (upto f len))).toArray⟩) ∧ Below w.heap.size w w' := by
  obtain ⟨i0, hi, hz0, hz1, hz2⟩ := info_parts info5
  go_enter Try.func6, Try.ntmps6
  go_wp2_with (at_make; refine wpList_make_own _ rfl _ _ 31 rfl w.heap.size 5 i0 (.int .u8 0) 1 Try.underlying31 hi hz0 hz1 _ _ _ (4 * len) rfl rfl (by omega) ?b2 ?b3 (Nat.le_refl _) ?_)
  case b2 => rw [hz2]; omega
  case b3 => unfold maxLen; omega
  intro w0 hown0 hgrow0
  go_wp2
  go_loopw [3, 4] (fun v i wr => ∃ k n : Nat, k ≤ len ∧ n ≤ 4 * k ∧ i = .int .i64 k ∧ v = .slice (some ⟨w.heap.size, 0, none⟩) n (4 * len) ∧
      wr.ownsRow w.heap.size 5 1 (.slice (some ⟨w.heap.size, 0, none⟩) n (4 * len)) n (Lib.byteCells (enc (vals (upto f k)))) ∧ Below w.heap.size w wr) (fun _ i _ => len - (intOf i).toNat)
  case atStart => exact ⟨0, 0, Nat.zero_le _, Nat.zero_le _, rfl, rfl, hown0, (Below.refl _ _).grown hgrow0 (Nat.le_refl _) (fun k h => by cases h)⟩
  case round =>
    obtain ⟨k, n, hk, hn, rfl, rfl, hown, hnx⟩ := hrel
    have hsz := hnx.size
    clear hown0 hgrow0
    obtain ⟨acc, hacc⟩ : ∃ acc, enc (vals (upto f k)) = acc := ⟨_, rfl⟩
    rw [hacc] at hown
    by_cases hlt : k < len
    · have hcx : wr.cell? ⟨b, off + k, none⟩ = some (.int .i32 (f k).1) := (hnx.cell (p := ⟨b, off + k, none⟩) hb).trans (hc k hlt)
      obtain ⟨r, hr⟩ : ∃ r, (f k).1 = r := ⟨_, rfl⟩
      have hr0 : -2147483648 ≤ r ∧ r ≤ 2147483647 := by rw [← hr]; exact (f k).2
      rw [hr] at hcx
      have hst := fun (news : List Value) (hnews : news = Lib.runeCells r) => enc_step f k hacc hr hnews
      have HS : Hid (∀ news : List Value, news = Lib.runeCells r → Lib.byteCells acc ++ news = Lib.byteCells (enc (vals (upto f (k + 1))))) := hst
      clear hst hacc hr hc
      rcases (show (Lib.validRune r = false) ∨ (Lib.validRune r = true ∧ 0 ≤ r ∧ r < 128) ∨ (Lib.validRune r = true ∧ 128 ≤ r ∧ r < 2048) ∨ (Lib.validRune r = true ∧ 2048 ≤ r ∧ r < 65536) ∨ (Lib.validRune r = true ∧ 65536 ≤ r ∧ r ≤ 1114111) from by
        by_cases hv : Lib.validRune r = true
        · have := validRune_true hv
          simp only [hv, true_and]
          omega
        · exact .inl (by simpa using hv)) with hv | ⟨hv, h0, h1⟩ | ⟨hv, h0, h1⟩ | ⟨hv, h0, h1⟩ | ⟨hv, h0, h1⟩
      · go_wp2_with (first
          | (go_at_call 10; refine (validRune_any _ _).mono ?_; rintro e w' ⟨rfl, hw⟩; subst w')
          | (at_builtin; refine wpList_append_fits _ rfl (.tmp 45) (.tmp 59) 31 rfl w.heap.size 5 i0 1 Try.underlying31 hi hz1 w.heap.size n (4 * len) _ rfl (hown.alloc _) ⟨wr.heap.size, 0, none⟩ 3 3 [.int .u8 239, .int .u8 191, .int .u8 189] rfl rfl ?c1 ?c2 (by omega) ?_))
        case c1 =>
          intro j u hj
          match j, hj with
          | 0, hj => simp at hj; subst hj; simp [Addr.add, i32_or_bad]
          | 1, hj => simp at hj; subst hj; simp [Addr.add]
          | 2, hj => simp at hj; subst hj; simp [Addr.add]
          | (j + 3), hj => simp at hj
        case c2 => intro u hu; simp at hu; rcases hu with rfl | rfl | rfl <;> rfl
        intro w1 hown1 hgrow1
        rw [HS.out _ (by simp [Lib.runeCells, Lib.encodeRuneZ_bad (validRune_false hv)])] at hown1
        have hb1 := (hnx.alloc hsz _).grown hgrow1 (by simp; omega) (fun k hk => by cases hk; exact Nat.le_refl _)
        clear hown hgrow1 hcx
        go_wp2
        go_roundw
        case rel => exact ⟨k + 1, n + 3, by omega, by omega, by go_num, rfl, hown1, hb1⟩
        case measure => simp [intOf]; omega
      · go_wp2_with (first
          | (go_at_call 10; refine (validRune_any _ _).mono ?_; rintro e w' ⟨rfl, hw⟩; subst w')
          | (at_builtin; refine wpList_append_fits _ rfl (.tmp 25) (.tmp 28) 31 rfl w.heap.size 5 i0 1 Try.underlying31 hi hz1 w.heap.size n (4 * len) _ rfl (hown.alloc _) ⟨wr.heap.size, 0, none⟩ 1 1 [.int .u8 r] rfl rfl ?c1 ?c2 (by omega) ?_))
        case c1 =>
          intro j u hj
          match j, hj with
          | 0, hj => simp at hj; subst hj; simp [Addr.add]
          | (j + 1), hj => simp at hj
        case c2 => intro u hu; simp at hu; subst hu; rfl
        intro w1 hown1 hgrow1
        rw [HS.out _ (by simp [Lib.runeCells, Lib.encodeRuneZ_one h0 (show r ≤ 127 by omega)])] at hown1
        have hb1 := (hnx.alloc hsz _).grown hgrow1 (by simp; omega) (fun k hk => by cases hk; exact Nat.le_refl _)
        clear hown hgrow1 hcx
        go_wp2
        go_roundw
        case rel => exact ⟨k + 1, n + 1, by omega, by omega, by go_num, rfl, hown1, hb1⟩
        case measure => simp [intOf]; omega
      · go_wp2_with (first
          | (go_at_call 10; refine (validRune_any _ _).mono ?_; rintro e w' ⟨rfl, hw⟩; subst w')
          | (at_builtin; refine wpList_append_fits _ rfl (.tmp 32) (.tmp 41) 31 rfl w.heap.size 5 i0 1 Try.underlying31 hi hz1 w.heap.size n (4 * len) _ rfl (hown.alloc _) ⟨wr.heap.size, 0, none⟩ 2 2 [.int .u8 (192 + r / 64), .int .u8 (128 + r % 64)] rfl rfl ?c1 ?c2 (by omega) ?_))
        case c1 =>
          intro j u hj
          match j, hj with
          | 0, hj => simp at hj; subst hj; simp [Addr.add]
          | 1, hj => simp at hj; subst hj; simp [Addr.add]
          | (j + 2), hj => simp at hj
        case c2 => intro u hu; simp at hu; rcases hu with rfl | rfl <;> rfl
        intro w1 hown1 hgrow1
        rw [HS.out _ (by simp [Lib.runeCells, Lib.encodeRuneZ_two h0 (show r ≤ 2047 by omega)])] at hown1
        have hb1 := (hnx.alloc hsz _).grown hgrow1 (by simp; omega) (fun k hk => by cases hk; exact Nat.le_refl _)
        clear hown hgrow1 hcx
        go_wp2
        go_roundw
        case rel => exact ⟨k + 1, n + 2, by omega, by omega, by go_num, rfl, hown1, hb1⟩
        case measure => simp [intOf]; omega
      · go_wp2_with (first
          | (go_at_call 10; refine (validRune_any _ _).mono ?_; rintro e w' ⟨rfl, hw⟩; subst w')
          | (at_builtin; refine wpList_append_fits _ rfl (.tmp 45) (.tmp 59) 31 rfl w.heap.size 5 i0 1 Try.underlying31 hi hz1 w.heap.size n (4 * len) _ rfl (hown.alloc _) ⟨wr.heap.size, 0, none⟩ 3 3 [.int .u8 (224 + r / 4096), .int .u8 (128 + r / 64 % 64), .int .u8 (128 + r % 64)] rfl rfl ?c1 ?c2 (by omega) ?_))
        case c1 =>
          intro j u hj
          match j, hj with
          | 0, hj => simp at hj; subst hj; simp [Addr.add, i32_or224 (r / 4096) (by omega) (by omega)]
          | 1, hj => simp at hj; subst hj; simp [Addr.add]
          | 2, hj => simp at hj; subst hj; simp [Addr.add]
          | (j + 3), hj => simp at hj
        case c2 => intro u hu; simp at hu; rcases hu with rfl | rfl | rfl <;> rfl
        intro w1 hown1 hgrow1
        rw [HS.out _ (by simp [Lib.runeCells, Lib.encodeRuneZ_three (show (2048 ≤ r ∧ r < 55296) ∨ (57343 < r ∧ r ≤ 65535) by have := validRune_true hv; omega)])] at hown1
        have hb1 := (hnx.alloc hsz _).grown hgrow1 (by simp; omega) (fun k hk => by cases hk; exact Nat.le_refl _)
        clear hown hgrow1 hcx
        go_wp2
        go_roundw
        case rel => exact ⟨k + 1, n + 3, by omega, by omega, by go_num, rfl, hown1, hb1⟩
        case measure => simp [intOf]; omega
      · go_wp2_with (first
          | (go_at_call 10; refine (validRune_any _ _).mono ?_; rintro e w' ⟨rfl, hw⟩; subst w')
          | (at_builtin; refine wpList_append_fits _ rfl (.tmp 61) (.tmp 80) 31 rfl w.heap.size 5 i0 1 Try.underlying31 hi hz1 w.heap.size n (4 * len) _ rfl (hown.alloc _) ⟨wr.heap.size, 0, none⟩ 4 4 [.int .u8 (240 + r / 262144), .int .u8 (128 + r / 4096 % 64), .int .u8 (128 + r / 64 % 64), .int .u8 (128 + r % 64)] rfl rfl ?c1 ?c2 (by omega) ?_))
        case c1 =>
          intro j u hj
          match j, hj with
          | 0, hj => simp at hj; subst hj; simp [Addr.add, i32_or240 (r / 262144) (by omega) (by omega)]
          | 1, hj => simp at hj; subst hj; simp [Addr.add]
          | 2, hj => simp at hj; subst hj; simp [Addr.add]
          | 3, hj => simp at hj; subst hj; simp [Addr.add]
          | (j + 4), hj => simp at hj
        case c2 => intro u hu; simp at hu; rcases hu with rfl | rfl | rfl | rfl <;> rfl
        intro w1 hown1 hgrow1
        rw [HS.out _ (by simp [Lib.runeCells, Lib.encodeRuneZ_four h0 h1])] at hown1
        have hb1 := (hnx.alloc hsz _).grown hgrow1 (by simp; omega) (fun k hk => by cases hk; exact Nat.le_refl _)
        clear hown hgrow1 hcx
        go_wp2
        go_roundw
        case rel => exact ⟨k + 1, n + 4, by omega, by omega, by go_num, rfl, hown1, hb1⟩
        case measure => simp [intOf]; omega
    · obtain rfl : k = len := by omega
      obtain rfl : n = acc.length := by have := hown.1; rw [Lib.byteCells_length] at this; omega
      have hcv := run_convert_bytes_back (P := Try.prog) wr 31 9 5 ⟨w.heap.size, 0, none⟩ (4 * k) acc Try.underlying31 Try.underlying5 Try.underlying9 (fun j hj => by
        have := hown.cellAt j (by omega)
        rw [addr_add, this]
        simp [Lib.byteCells, hj])
      have HA : Hid (enc (vals (upto f k)) = acc) := hacc
      clear hacc hown hc
      go_wp2
      go_ret
      rw [HA.out]
      exact ⟨rfl, hnx⟩

set_option maxHeartbeats 1000000 in
theorem encode_nil (w : World) :
    Calls Try.prog 6 #[.slice none 0 0] w fun e w' => e = .returned (.string ⟨#[]⟩) ∧ Below w.heap.size w w' := by
  obtain ⟨i0, hi, hz0, hz1, hz2⟩ := info_parts info5
  go_enter Try.func6, Try.ntmps6
  go_wp2_with (at_make; refine wpList_make_own _ rfl _ _ 31 rfl w.heap.size 5 i0 (.int .u8 0) 1 Try.underlying31 hi hz0 hz1 _ _ _ 0 rfl rfl (by omega) ?b2 ?b3 (Nat.le_refl _) ?_)
  case b2 => rw [hz2]; omega
  case b3 => unfold maxLen; omega
  intro w0 hown0 hgrow0
  have hcv : (convert 31 9 (.slice (some ⟨w.heap.size, 0, none⟩) 0 0)).run Try.prog w0 = .ok (.string ⟨#[]⟩) w0 := run_convert_bytes_back (P := Try.prog) w0 31 9 5 ⟨w.heap.size, 0, none⟩ 0 [] Try.underlying31 Try.underlying5 Try.underlying9 (fun j hj => by simp at hj)
  go_wp2
  go_loopw [3, 4] (fun v i wr => v = .slice (some ⟨w.heap.size, 0, none⟩) 0 0 ∧ i = .int .i64 0 ∧ wr = w0) (fun _ _ _ => 0)
  case atStart => exact ⟨rfl, rfl, rfl⟩
  case round =>
    obtain ⟨rfl, rfl, rfl⟩ := hrel
    go_wp2
    go_ret
    exact ⟨rfl, (Below.refl _ _).grown hgrow0 (Nat.le_refl _) (fun k h => by cases h)⟩

end Go.Proofs.Qxb6618926a
