/-
  The small functions of the two laws: zzBytes (5, 9), zzValidRune (10), zzEncLen (11), zzHasPrefix (8).
-/
import Derived.WalkKit
import Derived.ProofKit
import Derived.WalkSmall
import Derived.Deep.QuietTactic
import Derived.BigQuiet
import Derived.Test.Qxb6618926aProg
import Derived.Test.Qxb6618926aPlain
namespace Go.Proofs.Qxb6618926a
open Go.RowKit

theorem ret_int {k : IntKind} {a b : Int} (h : a = b) : Ending.returned (.int k a) = .returned (.int k b) := by rw [h]
theorem ret_bool {a b : Bool} (h : a = b) : Ending.returned (.bool a) = .returned (.bool b) := by rw [h]

set_option maxHeartbeats 400000 in
theorem bytes1_any (a0 a1 : Option Addr) (len0 cap0 len1 cap1 : Nat) (w : World) (h0 : len0 ≤ 9223372036854775807) (h1 : len1 ≤ 9223372036854775807) :
    Calls Try.prog 5 #[.slice a0 len0 cap0, .slice a1 len1 cap1] w fun e w' => e = .returned (.bool (decide (len0 + len1 ≤ 1048576))) ∧ w' = w := by
  by_cases c0 : 1048576 < len0
  · go_enter Try.func5, Try.ntmps5
    go_wp2
    go_ret
    exact ⟨ret_bool (by simp; omega), rfl⟩
  by_cases c1 : 1048576 < len1
  · go_enter Try.func5, Try.ntmps5
    go_wp2
    go_ret
    exact ⟨ret_bool (by simp; omega), rfl⟩
  by_cases c2 : 1048576 < len0 + len1
  · go_enter Try.func5, Try.ntmps5
    go_wp2
    go_ret
    exact ⟨ret_bool (by simp; omega), rfl⟩
  go_enter Try.func5, Try.ntmps5
  go_wp2
  go_ret
  exact ⟨ret_bool (by simp; omega), rfl⟩

set_option maxHeartbeats 400000 in
theorem bytes2_any (a0 : Option Addr) (len0 cap0 : Nat) (w : World) (h0 : len0 ≤ 9223372036854775807) :
    Calls Try.prog 9 #[.slice a0 len0 cap0] w fun e w' => e = .returned (.bool (decide (len0 ≤ 1048576))) ∧ w' = w := by
  by_cases c0 : 1048576 < len0
  · go_enter Try.func9, Try.ntmps9
    go_wp2
    go_ret
    exact ⟨ret_bool (by simp; omega), rfl⟩
  go_enter Try.func9, Try.ntmps9
  go_wp2
  go_ret
  exact ⟨ret_bool (by simp; omega), rfl⟩

set_option maxHeartbeats 400000 in
theorem validRune_any (r : Int) (w : World) :
    Calls Try.prog 10 #[.int .i32 r] w fun e w' => e = .returned (.bool (Lib.validRune r)) ∧ w' = w := by
  go_enter Try.func10, Try.ntmps10
  go_wp2
  all_goals
    go_ret
    exact ⟨ret_bool (by rw [Bool.eq_iff_iff]; simp [Lib.validRune]; try omega), rfl⟩

theorem validRune_true {r : Int} (h : Lib.validRune r = true) : (0 ≤ r ∧ r < 55296) ∨ (57343 < r ∧ r ≤ 1114111) := by simpa [Lib.validRune] using h
theorem validRune_false {r : Int} (h : Lib.validRune r = false) : r < 0 ∨ (55296 ≤ r ∧ r ≤ 57343) ∨ 1114111 < r := by
  simp [Lib.validRune] at h
  omega

theorem encodeRune_length (r : Int) : ((Lib.encodeRune r).length : Int) = if Lib.validRune r = true then (if r < 128 then 1 else if r < 2048 then 2 else if r < 65536 then 3 else 4) else 3 := by
  by_cases hv : Lib.validRune r = true
  · rw [if_pos hv]
    have := validRune_true hv
    by_cases h1 : r < 128
    · rw [if_pos h1]; simp [Lib.encodeRune, Lib.encodeRuneZ_one (r := r) (by omega) (by omega)]
    rw [if_neg h1]
    by_cases h2 : r < 2048
    · rw [if_pos h2]; simp [Lib.encodeRune, Lib.encodeRuneZ_two (r := r) (by omega) (by omega)]
    rw [if_neg h2]
    by_cases h3 : r < 65536
    · rw [if_pos h3]; simp [Lib.encodeRune, Lib.encodeRuneZ_three (r := r) (by omega)]
    rw [if_neg h3]
    simp [Lib.encodeRune, Lib.encodeRuneZ_four (r := r) (by omega) (by omega)]
  · rw [if_neg hv]
    have := validRune_false (by simpa using hv)
    simp [Lib.encodeRune, Lib.encodeRuneZ_bad this]

set_option maxHeartbeats 400000 in
theorem encLen_any (r : Int) (w : World) :
    Calls Try.prog 11 #[.int .i32 r] w fun e w' => e = .returned (.int .i64 (Lib.encodeRune r).length) ∧ w' = w := by
  have hl := encodeRune_length r
  have HL : Hid (((Lib.encodeRune r).length : Int) = if Lib.validRune r = true then (if r < 128 then 1 else if r < 2048 then 2 else if r < 65536 then 3 else 4) else 3) := hl
  clear hl
  by_cases hv : Lib.validRune r = true
  · go_enter Try.func11, Try.ntmps11
    go_wp2_with (go_at_call 10; refine (validRune_any _ _).mono ?_; rintro e w' ⟨rfl, rfl⟩)
    all_goals
      go_ret
      refine ⟨ret_int ?_, rfl⟩
      rw [HL.out, if_pos hv]
      repeat (first | rw [if_pos (by assumption)] | rw [if_neg (by omega)])
  · have hv' : Lib.validRune r = false := by simpa using hv
    go_enter Try.func11, Try.ntmps11
    go_wp2_with (go_at_call 10; refine (validRune_any _ _).mono ?_; rintro e w' ⟨rfl, rfl⟩)
    go_ret
    refine ⟨ret_int ?_, rfl⟩
    rw [HL.out, if_neg hv]

theorem prefix_get {s p : ByteArray} (h : p.data.toList <+: s.data.toList) : p.size ≤ s.size ∧ ∀ k (hk : k < p.size) (hk' : k < s.size), s[k] = p[k] := by
  obtain ⟨t, ht⟩ := h
  have hs : s.data.toList.length = p.data.toList.length + t.length := by rw [← ht, List.length_append]
  have e1 : s.data.toList.length = s.size := by simp
  have e2 : p.data.toList.length = p.size := by simp
  refine ⟨by omega, fun k hk hk' => ?_⟩
  have h1 : s.data.toList[k]? = p.data.toList[k]? := by rw [← ht, List.getElem?_append_left (by omega)]
  have h2 : s.data.toList[k]? = some s[k] := by rw [List.getElem?_eq_getElem (by omega)]; rfl
  have h3 : p.data.toList[k]? = some p[k] := by rw [List.getElem?_eq_getElem (by omega)]; rfl
  rw [h2, h3] at h1
  exact Option.some.inj h1

set_option maxHeartbeats 400000 in
/-- zzHasPrefix where p is a prefix of s. -/
theorem hasPrefix_true (s p : ByteArray) (w : World) (hs : s.size ≤ 9223372036854775807) (h : p.data.toList <+: s.data.toList) :
    Calls Try.prog 8 #[.string s, .string p] w fun e w' => e = .returned (.bool true) ∧ ∃ n, w' = w.drewN n := by
  obtain ⟨hle, hget⟩ := prefix_get h
  clear h
  go_enter Try.func8, Try.ntmps8
  go_wp2
  go_loopw [5] (fun i wr => ∃ k n : Nat, k ≤ p.size ∧ i = .int .i64 k ∧ wr = w.drewN n) (fun i _ => p.size - (intOf i).toNat)
  case atStart => exact ⟨0, 0, Nat.zero_le _, rfl, rfl⟩
  case round =>
    obtain ⟨k, n, hk, rfl, rfl⟩ := hrel
    by_cases hlt : k < p.size
    · have hlt' : k < s.size := by omega
      have hg := hget k hlt hlt'
      have hi1 : (k : Int) < (p.size : Int) := by omega
      have hi2 : (k : Int) < (s.size : Int) := by omega
      go_wp2
      go_quiet (fail)
      go_wp2
      go_roundw
      case rel => exact ⟨k + 1, _, by omega, by go_num, rfl⟩
      case measure => simp [intOf]; omega
    · go_wp2
      go_ret
      exact ⟨rfl, _, rfl⟩

end Go.Proofs.Qxb6618926a
