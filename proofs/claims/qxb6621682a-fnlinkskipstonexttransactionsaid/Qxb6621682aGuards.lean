import Derived.Test.Qxb6621682aRows
import Derived.WalkKit
import Derived.ProofKit
import Derived.WalkSpells
import Derived.Deep.QuietTactic
import Derived.BigQuiet
import Derived.Deep.OwnRows
import Derived.Deep.RegionWith
import Derived.Deep.DeepCutAuto
namespace Go.Proofs.Qxb6621682a
open Go.RowKit

/-- What a walk is told of the list of operations that came in: where there is an element, the slice leads to plain cells, three an element. -/
def OpsIn (w : World) (ao : Option Addr) (n : Nat) (K T : Nat → Int) (S : Nat → ByteArray) : Prop :=
  0 < n → ∃ b off, ao = some ⟨b, off, none⟩ ∧ b < w.heap.size ∧ ∀ i, i < n → w.cell? ⟨b, off + i * 3, none⟩ = some (.int .u8 (K i)) ∧ w.cell? ⟨b, off + i * 3 + 1, none⟩ = some (.int .i64 (T i)) ∧ w.cell? ⟨b, off + i * 3 + 2, none⟩ = some (.string (S i)) ∧ (S i).size ≤ maxLen

/-- The answer is a Bool r, the world has not turned, and Q holds of r. -/
def Says (w : World) (Q : Bool → Prop) (e : Ending) (w' : World) : Prop := ∃ r, e = .returned (.bool r) ∧ w' = w ∧ Q r
theorem Says.mk {w : World} {Q : Bool → Prop} (r : Bool) (h : Q r) : Says w Q (.returned (.bool r)) w := ⟨r, rfl, rfl, h⟩

set_option maxHeartbeats 400000 in
theorem tooBig_any (ao : Option Addr) (n cap : Nat) (x : Int) (K T : Nat → Int) (S : Nat → ByteArray) (w : World) (hx0 : 0 ≤ x) (hx1 : x ≤ 1048576) (ho : OpsIn w ao n K T S) (hn : n ≤ 1048576) (hS : ∀ i, i < n → (S i).size ≤ 1048576) :
    Calls Try.prog 10 #[.slice ao n cap, .int .i64 x] w (Says w fun r => r = false → n ≤ 4096) := by
  by_cases h1 : (n : Int) ≤ 4096
  · by_cases h2 : 32 * (n : Int) + x ≤ 1048576
    · go_enter Try.func10, Try.ntmps10
      go_wp2
      go_loop [5, 6] (fun t i => ∃ (k : Nat) (z : Int), k ≤ n ∧ i = .int .i64 k ∧ 0 ≤ z ∧ z ≤ 1048576 ∧ t = .int .i64 z) (fun _ i => n - (intOf i).toNat)
      case atStart => exact ⟨0, _, Nat.zero_le _, rfl, by omega, h2, rfl⟩
      case round =>
        obtain ⟨k, z, hk, rfl, hz0, hz1, rfl⟩ := hrel
        by_cases hlt : k < n
        · obtain ⟨b, off, rfl, hb, hc⟩ := ho (by omega)
          have hck := (hc k hlt).2.2.1
          have hl := hS k hlt
          clear hc
          by_cases h3 : z + ((S k).size : Int) ≤ 1048576
          · go_wp2
            go_round
            case rel => exact ⟨k + 1, _, by omega, by go_num, by omega, h3, rfl⟩
            case measure => simp [intOf]; omega
          · go_wp2
            go_ret
            exact Says.mk _ (by simp)
        · go_wp2
          go_ret
          exact Says.mk _ fun _ => by omega
    · go_enter Try.func10, Try.ntmps10
      go_wp2
      go_ret
      exact Says.mk _ (by simp)
  · go_enter Try.func10, Try.ntmps10
    go_wp2
    go_ret
    exact Says.mk _ (by simp)

set_option maxHeartbeats 400000 in
theorem bytes9 (ao : Option Addr) (n cap : Nat) (K T : Nat → Int) (S : Nat → ByteArray) (xo : Option Addr) (m cap' : Nat) (q : Int) (w : World) (ho : OpsIn w ao n K T S) (hn : n ≤ maxLen) (hm : m ≤ maxLen) :
    Calls Try.prog 9 #[.slice ao n cap, .slice xo m cap', .int .i64 q] w (Says w fun r => r = true → n ≤ 1048576 ∧ ∀ i, i < n → (S i).size ≤ 1048576) := by
  unfold maxLen at hn hm
  by_cases h1 : (n : Int) ≤ 1048576
  · go_enter Try.func9, Try.ntmps9
    go_wp2
    go_loop [7, 8] (fun t i => ∃ (k : Nat) (z : Int), k ≤ n ∧ i = .int .i64 k ∧ 0 ≤ z ∧ z ≤ 1048576 ∧ t = .int .i64 z ∧ Hid (∀ i, i < k → (S i).size ≤ 1048576)) (fun _ i => n - (intOf i).toNat)
    case atStart => exact ⟨0, _, Nat.zero_le _, rfl, by omega, h1, rfl, fun i hi => by omega⟩
    case round =>
      obtain ⟨k, z, hk, rfl, hz0, hz1, rfl, hall⟩ := hrel
      by_cases hlt : k < n
      · obtain ⟨b, off, rfl, hb, hc⟩ := ho (by omega)
        have hck := (hc k hlt).2.2.1
        clear hc
        by_cases hl : ((S k).size : Int) ≤ 1048576
        · by_cases h3 : z + ((S k).size : Int) ≤ 1048576
          · go_wp2
            go_round
            case rel =>
              refine ⟨k + 1, _, by omega, by go_num, by omega, h3, rfl, fun i hi => ?_⟩
              by_cases e : i = k
              · subst e; omega
              · exact hall i (by omega)
            case measure => simp [intOf]; omega
          · go_wp2
            go_ret
            exact Says.mk _ (by simp)
        · go_wp2
          go_ret
          exact Says.mk _ (by simp)
      · have hkn : k = n := by omega
        subst hkn
        by_cases h5 : (m : Int) ≤ 1048576
        · by_cases h6 : z + (m : Int) ≤ 1048576
          · go_wp2
            go_ret
            exact Says.mk _ fun _ => ⟨by omega, hall.out⟩
          · go_wp2
            go_ret
            exact Says.mk _ (by simp)
        · go_wp2
          go_ret
          exact Says.mk _ (by simp)
  · go_enter Try.func9, Try.ntmps9
    go_wp2
    go_ret
    exact Says.mk _ (by simp)
set_option maxHeartbeats 400000 in
theorem bytes13 (ao : Option Addr) (n cap : Nat) (K T : Nat → Int) (S : Nat → ByteArray) (xo : Option Addr) (m cap' : Nat) (w : World) (ho : OpsIn w ao n K T S) (hn : n ≤ maxLen) (hm : m ≤ maxLen) :
    Calls Try.prog 13 #[.slice ao n cap, .slice xo m cap'] w (Says w fun r => r = true → n ≤ 1048576 ∧ ∀ i, i < n → (S i).size ≤ 1048576) := by
  unfold maxLen at hn hm
  by_cases h1 : (n : Int) ≤ 1048576
  · go_enter Try.func13, Try.ntmps13
    go_wp2
    go_loop [5, 6] (fun t i => ∃ (k : Nat) (z : Int), k ≤ n ∧ i = .int .i64 k ∧ 0 ≤ z ∧ z ≤ 1048576 ∧ t = .int .i64 z ∧ Hid (∀ i, i < k → (S i).size ≤ 1048576)) (fun _ i => n - (intOf i).toNat)
    case atStart => exact ⟨0, _, Nat.zero_le _, rfl, by omega, h1, rfl, fun i hi => by omega⟩
    case round =>
      obtain ⟨k, z, hk, rfl, hz0, hz1, rfl, hall⟩ := hrel
      by_cases hlt : k < n
      · obtain ⟨b, off, rfl, hb, hc⟩ := ho (by omega)
        have hck := (hc k hlt).2.2.1
        clear hc
        by_cases hl : ((S k).size : Int) ≤ 1048576
        · by_cases h3 : z + ((S k).size : Int) ≤ 1048576
          · go_wp2
            go_round
            case rel =>
              refine ⟨k + 1, _, by omega, by go_num, by omega, h3, rfl, fun i hi => ?_⟩
              by_cases e : i = k
              · subst e; omega
              · exact hall i (by omega)
            case measure => simp [intOf]; omega
          · go_wp2
            go_ret
            exact Says.mk _ (by simp)
        · go_wp2
          go_ret
          exact Says.mk _ (by simp)
      · have hkn : k = n := by omega
        subst hkn
        by_cases h5 : (m : Int) ≤ 1048576
        · by_cases h6 : z + (m : Int) ≤ 1048576
          · go_wp2
            go_ret
            exact Says.mk _ fun _ => ⟨by omega, hall.out⟩
          · go_wp2
            go_ret
            exact Says.mk _ (by simp)
        · go_wp2
          go_ret
          exact Says.mk _ (by simp)
  · go_enter Try.func13, Try.ntmps13
    go_wp2
    go_ret
    exact Says.mk _ (by simp)
end Go.Proofs.Qxb6621682a
