import Derived.Test.Qxb6621685aDistinct
namespace Go.Proofs.Qxb6621685a
open Go.RowKit

/-- The answer is a Bool r, the world has not turned, and Q holds of r. -/
def Says (w : World) (Q : Bool → Prop) (e : Ending) (w' : World) : Prop := ∃ r, e = .returned (.bool r) ∧ w' = w ∧ Q r
theorem Says.mk {w : World} {Q : Bool → Prop} (r : Bool) (h : Q r) : Says w Q (.returned (.bool r)) w := ⟨r, rfl, rfl, h⟩

def SaysTwo (w : World) (Q : Int → Bool → Prop) (e : Ending) (w' : World) : Prop := ∃ u r, e = .returned (.tuple #[.int .i64 u, .bool r]) ∧ w' = w ∧ Q u r
theorem SaysTwo.mk {w : World} {Q : Int → Bool → Prop} (u : Int) (r : Bool) (h : Q u r) : SaysTwo w Q (.returned (.tuple #[.int .i64 u, .bool r])) w := ⟨u, r, rfl, rfl, h⟩

def Short (S : Nat → ByteArray) (n : Nat) : Prop := ∀ i, i < n → (S i).size ≤ 1048576

set_option maxHeartbeats 1000000 in
theorem size_any (ao : Option Addr) (n cap : Nat) (x : Int) (S : Nat → ByteArray) (w : World) (hx0 : 0 ≤ x) (hx1 : x ≤ 1048576) (hn : n ≤ 1048576) (hS : Short S n) (h : StrsIn w ao n S) :
    Calls Try.prog 6 #[.slice ao n cap, .int .i64 x] w (SaysTwo w fun u r => r = true → 0 ≤ u ∧ u ≤ 1048576 ∧ n ≤ 65536) := by
  by_cases h1 : (n : Int) ≤ 65536
  · by_cases h2 : x + 8 * (n : Int) ≤ 1048576
    · go_enter Try.func6, Try.ntmps6
      go_wp2
      go_loop [1, 6] (fun t i => ∃ (k : Nat) (z : Int), k ≤ n ∧ i = .int .i64 k ∧ 0 ≤ z ∧ z ≤ 1048576 ∧ t = .int .i64 z) (fun _ i => n - (intOf i).toNat)
      case atStart => exact ⟨0, _, Nat.zero_le _, rfl, by omega, h2, rfl⟩
      case round =>
        obtain ⟨k, z, hk, rfl, hz0, hz1, rfl⟩ := hrel
        by_cases hlt : k < n
        · obtain ⟨b, off, rfl, hb, hc⟩ := h (by omega)
          have hck := hc k hlt
          have hl := hS k hlt
          clear hc
          by_cases h3 : z + ((S k).size : Int) ≤ 1048576
          · go_wp2
            go_round
            case rel => exact ⟨k + 1, _, by omega, by go_num, by omega, h3, rfl⟩
            case measure => simp [intOf]; omega
          · go_wp2
            go_ret2
            exact SaysTwo.mk _ _ (by simp)
        · go_wp2
          go_ret2
          exact SaysTwo.mk _ _ fun _ => ⟨hz0, hz1, by omega⟩
    · go_enter Try.func6, Try.ntmps6
      go_wp2
      go_ret2
      exact SaysTwo.mk _ _ (by simp)
  · go_enter Try.func6, Try.ntmps6
    go_wp2
    go_ret2
    exact SaysTwo.mk _ _ (by simp)

/-- Does the string stand among the first n? -/
def hasB (S : Nat → ByteArray) (n : Nat) (q : ByteArray) : Bool := decide (q.data.toList ∈ upTo S n)

set_option maxHeartbeats 1000000 in
theorem contains_any (ao : Option Addr) (n cap : Nat) (S : Nat → ByteArray) (q : ByteArray) (w : World) (hn : n ≤ 1048576) (h : StrsIn w ao n S) :
    Calls Try.prog 9 #[.slice ao n cap, .string q] w fun e w' => e = .returned (.bool (hasB S n q)) ∧ w' = w := by
  go_enter Try.func9, Try.ntmps9
  go_wp2
  go_loop [5] (fun i => ∃ k : Nat, k ≤ n ∧ i = .int .i64 k ∧ Hid (∀ j, j < k → (S j).data.toList ≠ q.data.toList)) (fun i => n - (intOf i).toNat)
  case atStart => exact ⟨0, Nat.zero_le _, rfl, fun j hj => by omega⟩
  case round =>
    obtain ⟨k, hk, rfl, hno⟩ := hrel
    by_cases hlt : k < n
    · obtain ⟨b, off, rfl, hb, hc⟩ := h (by omega)
      have hck := hc k hlt
      clear hc
      by_cases he : (S k).data.toList = q.data.toList
      · have hbq : ((S k).toList == q.toList) = true := by rw [ByteArray.toList_eq, ByteArray.toList_eq, he]; simp
        have hyes : Hid (hasB S n q = true) := decide_eq_true (mem_upTo.2 ⟨k, hlt, he⟩)
        clear he
        go_wp2
        go_ret
        exact ⟨by rw [hyes.out]; rfl, rfl⟩
      · have hbq : ((S k).toList == q.toList) = false := by rw [ByteArray.toList_eq, ByteArray.toList_eq]; simpa using he
        have HE := hide he
        clear he
        go_wp2
        go_round
        case rel =>
          refine ⟨k + 1, by omega, by go_num, fun j hj => ?_⟩
          by_cases e : j = k
          · subst e; exact HE.out
          · exact hno.out j (by omega)
        case measure => simp [intOf]; omega
    · have hnot : Hid (hasB S n q = false) := decide_eq_false fun hm => by
        obtain ⟨j, hj, e⟩ := mem_upTo.1 hm
        exact hno.out j (by omega) e
      go_wp2
      go_ret
      exact ⟨by rw [hnot.out]; rfl, rfl⟩

set_option maxHeartbeats 1000000 in
theorem bytes5 (ao : Option Addr) (n cap : Nat) (S : Nat → ByteArray) (bo : Option Addr) (m cap' : Nat) (R : Nat → ByteArray) (q : ByteArray) (w : World) (hn : n ≤ maxLen) (hm : m ≤ maxLen) (hq : q.size ≤ maxLen) (ha : StrsIn w ao n S) (hb : StrsIn w bo m R) :
    Calls Try.prog 5 #[.slice ao n cap, .slice bo m cap', .string q] w (Says w fun r => r = true → n ≤ 1048576 ∧ m ≤ 1048576 ∧ Short S n ∧ Short R m ∧ q.size ≤ 1048576) := by
  unfold maxLen at hn hm hq
  by_cases h1 : (n : Int) ≤ 1048576
  · go_enter Try.func5, Try.ntmps5
    go_wp2
    go_loop [7, 8] (fun t i => ∃ (k : Nat) (z : Int), k ≤ n ∧ i = .int .i64 k ∧ 0 ≤ z ∧ z ≤ 1048576 ∧ t = .int .i64 z ∧ Hid (Short S k)) (fun _ i => n - (intOf i).toNat)
    case atStart => exact ⟨0, _, Nat.zero_le _, rfl, by omega, h1, rfl, fun i hi => by omega⟩
    case round =>
      obtain ⟨k, z, hk, rfl, hz0, hz1, rfl, hall⟩ := hrel
      by_cases hlt : k < n
      · obtain ⟨b, off, rfl, hbl, hc⟩ := ha (by omega)
        have hck := hc k hlt
        clear hc
        by_cases hl : ((S k).size : Int) ≤ 1048576
        · by_cases h3 : z + ((S k).size : Int) ≤ 1048576
          · go_wp2
            go_round
            case rel =>
              refine ⟨k + 1, _, by omega, by go_num, by omega, h3, rfl, fun i hi => ?_⟩
              by_cases e : i = k
              · subst e; omega
              · exact hall i (by omega)
            case measure => simp [intOf]; omega
          · go_wp2
            go_ret
            exact Says.mk _ (by simp)
        · go_wp2
          go_ret
          exact Says.mk _ (by simp)
      · have hkn : n = k := by omega
        subst hkn
        by_cases h5 : (m : Int) ≤ 1048576
        · by_cases h6 : z + (m : Int) ≤ 1048576
          · go_wp2
            go_loop [7, 9] (fun t i => ∃ (k : Nat) (z : Int), k ≤ m ∧ i = .int .i64 k ∧ 0 ≤ z ∧ z ≤ 1048576 ∧ t = .int .i64 z ∧ Hid (Short R k)) (fun _ i => m - (intOf i).toNat)
            case atStart => exact ⟨0, _, Nat.zero_le _, rfl, by omega, h6, rfl, fun i hi => by omega⟩
            case round =>
              obtain ⟨k, y, hk, rfl, hy0, hy1, rfl, hall'⟩ := hrel
              by_cases hlt : k < m
              · obtain ⟨b, off, rfl, hbl, hc⟩ := hb (by omega)
                have hck := hc k hlt
                clear hc
                by_cases hl : ((R k).size : Int) ≤ 1048576
                · by_cases h3 : y + ((R k).size : Int) ≤ 1048576
                  · go_wp2
                    go_round
                    case rel =>
                      refine ⟨k + 1, _, by omega, by go_num, by omega, h3, rfl, fun i hi => ?_⟩
                      by_cases e : i = k
                      · subst e; omega
                      · exact hall' i (by omega)
                    case measure => simp [intOf]; omega
                  · go_wp2
                    go_ret
                    exact Says.mk _ (by simp)
                · go_wp2
                  go_ret
                  exact Says.mk _ (by simp)
              · have hkm : m = k := by omega
                subst hkm
                by_cases h7 : (q.size : Int) ≤ 1048576
                · by_cases h8 : y + (q.size : Int) ≤ 1048576
                  · go_wp2
                    go_ret
                    exact Says.mk _ fun _ => ⟨by omega, by omega, hall.out, hall'.out, by omega⟩
                  · go_wp2
                    go_ret
                    exact Says.mk _ (by simp)
                · go_wp2
                  go_ret
                  exact Says.mk _ (by simp)
          · go_wp2
            go_ret
            exact Says.mk _ (by simp)
        · go_wp2
          go_ret
          exact Says.mk _ (by simp)
  · go_enter Try.func5, Try.ntmps5
    go_wp2
    go_ret
    exact Says.mk _ (by simp)
end Go.Proofs.Qxb6621685a
