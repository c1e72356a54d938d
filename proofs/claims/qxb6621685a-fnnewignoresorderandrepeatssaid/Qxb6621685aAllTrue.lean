import Derived.Test.Qxb6621685aMaps
namespace Go.Proofs.Qxb6621685a
open Go.RowKit Go.Maps Go.WideMaps

set_option maxHeartbeats 1000000 in
theorem allTrue_any (B : Nat) (L : List (List UInt8)) (ao : Option Addr) (n cap : Nat) (S : Nat → ByteArray) (w : World) (hn : n ≤ 1048576) (hs : IsSet w B L) (h : StrsIn w ao n S) (hS : Short S n) (hall : ∀ x, x ∈ upTo S n → x ∈ L) :
    Calls Try.prog 10 #[.map (some B), .slice ao n cap] w fun e w' => e = .returned (.bool true) ∧ w' = w := by
  go_enter Try.func10, Try.ntmps10
  go_wp2
  go_loop [5] (fun i => ∃ k : Nat, k ≤ n ∧ i = .int .i64 k) (fun i => n - (intOf i).toNat)
  case atStart => exact ⟨0, Nat.zero_le _, rfl⟩
  case round =>
    obtain ⟨k, hk, rfl⟩ := hrel
    by_cases hlt : k < n
    · obtain ⟨b, off, rfl, hb, hc⟩ := h (by omega)
      have hck := hc k hlt
      have hlook := hs.look (S k) (hS k hlt)
      rw [decide_eq_true (hall _ (mem_upTo.2 ⟨k, hlt, rfl⟩))] at hlook
      clear hc
      go_wp2
      go_round
      case rel => exact ⟨k + 1, by omega, by go_num⟩
      case measure => simp [intOf]; omega
    · go_wp2
      go_ret
      exact ⟨rfl, rfl⟩
end Go.Proofs.Qxb6621685a
