import Derived.Test.Qxb6617329aRows
import Derived.WalkKit
import Derived.ProofKit
import Derived.WalkSpells
import Derived.WalkSmall
import Derived.Deep.QuietTactic
import Derived.BigQuiet
import Derived.Deep.OwnRows
import Derived.Deep.RegionWith
import Derived.Deep.DeepCutAuto
namespace Go.Proofs.Qxb6617329a.Listed
open Go.RowKit

def Says (w : World) (Q : Bool → Prop) (e : Ending) (w' : World) : Prop := ∃ r, e = .returned (.bool r) ∧ w' = w ∧ Q r
theorem Says.mk {w : World} {Q : Bool → Prop} (r : Bool) (h : Q r) : Says w Q (.returned (.bool r)) w := ⟨r, rfl, rfl, h⟩

set_option maxHeartbeats 1000000 in
theorem bytes8 (a0 a1 a2 a3 a4 : Int) (no : Option Addr) (n nc : Nat) (ao : Option Addr) (m mc : Nat) (w : World) (hn : n ≤ maxLen) (hm : m ≤ maxLen) :
    Calls Try.prog 8 #[.int .i64 a0, .int .i64 a1, .int .i64 a2, .int .i64 a3, .int .i16 a4, .slice no n nc, .slice ao m mc] w (Says w fun r => r = true → n ≤ 1048576 ∧ m ≤ 1048576) := by
  unfold maxLen at hn hm
  by_cases h1 : (n : Int) ≤ 1048576
  · by_cases h2 : (m : Int) ≤ 1048576
    · by_cases h3 : (n : Int) + (m : Int) ≤ 1048576
      · go_enter Try.func8, Try.ntmps8
        go_wp2
        go_ret
        exact Says.mk _ fun _ => ⟨by omega, by omega⟩
      · go_enter Try.func8, Try.ntmps8
        go_wp2
        go_ret
        exact Says.mk _ (by simp)
    · go_enter Try.func8, Try.ntmps8
      go_wp2
      go_ret
      exact Says.mk _ (by simp)
  · go_enter Try.func8, Try.ntmps8
    go_wp2
    go_ret
    exact Says.mk _ (by simp)

def True5 (w : World) (e : Ending) (w' : World) : Prop := e = .returned (.bool true) ∧ Below w.heap.size w w'

set_option maxRecDepth 100000 in
set_option maxHeartbeats 2000000 in
theorem law (a0 a1 a2 a3 a4 : Int) (no : Option Addr) (n nc : Nat) (ao : Option Addr) (m mc : Nat) (w : World) (hn : n ≤ maxLen) (hm : m ≤ maxLen) :
    Calls Try.prog 4 #[.int .i64 a0, .int .i64 a1, .int .i64 a2, .int .i64 a3, .int .i16 a4, .slice no n nc, .slice ao m mc] w (True5 w) := by
  have HN : Hid (n ≤ maxLen ∧ m ≤ maxLen) := ⟨hn, hm⟩
  clear hn hm
  go_enter Try.func4, Try.ntmps4
  go_wp2_with fail
  refine (bytes8 a0 a1 a2 a3 a4 no n nc ao m mc _ HN.out.1 HN.out.2).mono ?_
  rintro e w1 ⟨r, rfl, rfl, hr⟩
  cases r with
  | false =>
    go_wp2
    go_ret
    exact ⟨rfl, Below.refl _ _⟩
  | true =>
    obtain ⟨hn, hm⟩ := hr rfl
    have hni : (n : Int) ≤ 1048576 := by omega
    have hmi : (m : Int) ≤ 1048576 := by omega
    by_cases g1 : (n : Int) + (m : Int) ≤ 1048576
    · have e1 : ((36 + (n : Int) + (4 + (m : Int)) - (36 + (n : Int))) == 4 + (m : Int)) = true := by simp; omega
      go_wp2
      go_ret
      exact ⟨rfl, by repeat (first | exact Below.refl _ _ | refine Below.alloc ?_ (by simp <;> omega) _)⟩
    · go_wp2
      go_ret
      exact ⟨rfl, Below.refl _ _⟩
end Go.Proofs.Qxb6617329a.Listed
