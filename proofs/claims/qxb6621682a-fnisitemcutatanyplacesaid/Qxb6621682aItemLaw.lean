import Derived.Test.Qxb6621682aItems
import Derived.Deep.RegionWith
namespace Go.Proofs.Qxb6621682a
open Go.RowKit

theorem ext_len (s : ByteArray) (a b : Nat) (hs : s.size ≤ maxLen) : (s.extract a b).size ≤ maxLen := by
  rw [ByteArray.size_extract]; omega
theorem byte_le (c : UInt8) : (c.toNat : Int) ≤ 255 := by have := c.toNat_lt; omega

set_option maxHeartbeats 1000000 in
theorem law_empty (s : ByteArray) (i : Int) (hs : s.size ≤ maxLen) (h0 : s.size = 0) (w : World) :
    Calls Try.prog 3 #[.string s, .int .i64 i] w fun e w' => e = .returned (.bool true) ∧ ∃ n, w' = w.drewN n := by
  have hsz : (s.size : Int) ≤ 1048576 := by omega
  have hb : isB s = false := by
    have : s.data.toList = [] := by apply List.eq_nil_of_length_eq_zero; simpa using h0
    simp [isB, itemS, this]
  go_enter Try.func3, Try.ntmps3
  go_wp2_with (first | (go_at_call 6; refine (small_yes _ _ hsz _).mono ?_; rintro e w' ⟨rfl, rfl⟩) | (go_at_call 7; refine (isItem_any _ hs _).mono ?_; rintro e w' ⟨rfl, rfl⟩))
  go_ret
  exact ⟨rfl, 0, rfl⟩

set_option maxHeartbeats 1000000 in
theorem law_cut (s : ByteArray) (i : Nat) (hs : s.size ≤ maxLen) (hsz : (s.size : Int) ≤ 1048576) (h1 : 1 ≤ i) (h2 : i < s.size) (w : World) :
    Calls Try.prog 3 #[.string s, .int .i64 i] w fun e w' => e = .returned (.bool true) ∧ ∃ n, w' = w.drewN n := by
  have hpos : 0 < s.size := by omega
  have H1 : isB (s.extract 0 1) = itemB ((s[0]).toNat : Int) := itemS_one s hpos
  have h00 : ((s.size : Int) == 0) = false := beq_eq_false_iff_ne.2 (by omega)
  have h1s : (1 : Int) ≤ (s.size : Int) := by omega
  have h0s : (0 : Int) < (s.size : Int) := by omega
  have hc := itemS_cut s i h1 h2
  cases hp : isB (s.extract 0 i) <;> cases hq : isB (s.extract i s.size)
  all_goals
    rw [hp, hq] at hc
    go_enter Try.func3, Try.ntmps3
    go_wp2_with (first | (go_at_call 6; refine (small_yes _ _ hsz _).mono ?_; rintro e w' ⟨rfl, rfl⟩))
    go_quiet (first | (go_at_call 7; exact Calls.quiet_of_same (isItem_any _ (ext_len _ _ _ hs) _)) | (go_at_call 8; exact Calls.quiet_of_same (nameByte_any _ (by omega) (byte_le _) _)))
    go_wp2_with (first | (go_at_call_of 7 (Value.string s); refine (isItem_any _ hs _).mono ?_; rintro e w' ⟨rfl, rfl⟩) | (go_at_call 7; refine (isItem_any _ (ext_len _ _ _ hs) _).mono ?_; rintro e w' ⟨rfl, rfl⟩))
    go_ret
    exact ⟨rfl, _, rfl⟩

set_option maxHeartbeats 1000000 in
theorem law_out (s : ByteArray) (i : Int) (hs : s.size ≤ maxLen) (hsz : (s.size : Int) ≤ 1048576) (hpos : 0 < s.size) (ho : i < 1 ∨ (s.size : Int) ≤ i) (w : World) :
    Calls Try.prog 3 #[.string s, .int .i64 i] w fun e w' => e = .returned (.bool true) ∧ ∃ n, w' = w.drewN n := by
  have H1 : isB (s.extract 0 1) = itemB ((s[0]).toNat : Int) := itemS_one s hpos
  have h00 : ((s.size : Int) == 0) = false := beq_eq_false_iff_ne.2 (by omega)
  have h1s : (1 : Int) ≤ (s.size : Int) := by omega
  have h0s : (0 : Int) < (s.size : Int) := by omega
  go_enter Try.func3, Try.ntmps3
  go_wp2_with (first | (go_at_call 6; refine (small_yes _ _ hsz _).mono ?_; rintro e w' ⟨rfl, rfl⟩))
  go_quiet (first | (go_at_call 7; exact Calls.quiet_of_same (isItem_any _ (ext_len _ _ _ hs) _)) | (go_at_call 8; exact Calls.quiet_of_same (nameByte_any _ (by omega) (byte_le _) _)))
  by_cases h1 : i < 1
  · go_wp2
    go_ret
    exact ⟨rfl, _, rfl⟩
  · have h2 : (s.size : Int) ≤ i := by omega
    go_wp2
    go_ret
    exact ⟨rfl, _, rfl⟩

set_option maxHeartbeats 1000000 in
theorem law_big (s : ByteArray) (i : Int) (hsz : ¬ (s.size : Int) ≤ 1048576) (w : World) :
    Calls Try.prog 3 #[.string s, .int .i64 i] w fun e w' => e = .returned (.bool true) ∧ ∃ n, w' = w.drewN n := by
  go_enter Try.func3, Try.ntmps3
  go_wp2_with (first | (go_at_call 6; refine (small_no _ _ hsz _).mono ?_; rintro e w' ⟨rfl, rfl⟩))
  go_ret
  exact ⟨rfl, 0, rfl⟩

theorem law (s : ByteArray) (i : Int) (hs : s.size ≤ maxLen) (w : World) :
    Calls Try.prog 3 #[.string s, .int .i64 i] w fun e w' => e = .returned (.bool true) ∧ ∃ n, w' = w.drewN n := by
  by_cases hsz : (s.size : Int) ≤ 1048576
  · by_cases h0 : s.size = 0
    · exact law_empty s i hs h0 w
    · by_cases hi : 1 ≤ i ∧ i < (s.size : Int)
      · obtain ⟨n, rfl⟩ := Int.eq_ofNat_of_zero_le (show 0 ≤ i by omega)
        exact law_cut s n hs hsz (by omega) (by omega) w
      · exact law_out s i hs hsz (by omega) (by omega) w
  · exact law_big s i hsz w
end Go.Proofs.Qxb6621682a
