import Derived.Test.Qxb6621682aRows
import Derived.WalkKit
import Derived.ProofKit
import Derived.WalkSpells
import Derived.Deep.QuietTactic
import Derived.BigQuiet
import Derived.Lib.Strings
namespace Go.Proofs.Qxb6621682a
open Go.RowKit

theorem ret_bool {a b : Bool} (h : a = b) : Ending.returned (.bool a) = .returned (.bool b) := by rw [h]

/-- May the byte stand in a name? -/
def itemB (c : Int) : Bool := decide ((97 ≤ c ∧ c ≤ 122) ∨ (65 ≤ c ∧ c ≤ 90) ∨ (48 ≤ c ∧ c ≤ 57) ∨ c = 95 ∨ c = 45)

theorem or32_all : ∀ n : Fin 256, decide ((97 ≤ bits BinOp.or IntKind.u8 (n.val : Int) 32 ∧ bits BinOp.or IntKind.u8 (n.val : Int) 32 ≤ 122) ↔ ((97 ≤ (n.val : Int) ∧ (n.val : Int) ≤ 122) ∨ (65 ≤ (n.val : Int) ∧ (n.val : Int) ≤ 90))) = true := by
  decide +kernel
theorem or32 (c : Int) (h0 : 0 ≤ c) (h1 : c ≤ 255) : (97 ≤ bits BinOp.or IntKind.u8 c 32 ∧ bits BinOp.or IntKind.u8 c 32 ≤ 122) ↔ ((97 ≤ c ∧ c ≤ 122) ∨ (65 ≤ c ∧ c ≤ 90)) := by
  obtain ⟨n, rfl⟩ := Int.eq_ofNat_of_zero_le h0
  exact of_decide_eq_true (or32_all ⟨n, by omega⟩)

set_option maxHeartbeats 400000 in
theorem itemByte_any (c : Int) (w : World) : Calls Try.prog 14 #[.int .u8 c] w fun e w' => e = .returned (.bool (itemB c)) ∧ w' = w := by
  go_enter Try.func14, Try.ntmps14
  go_wp2
  all_goals
    go_ret
    refine ⟨ret_bool ?_, rfl⟩
    unfold itemB
    rw [Bool.eq_iff_iff]
    simp <;> omega

set_option maxHeartbeats 400000 in
theorem nameByte_any (c : Int) (h0 : 0 ≤ c) (h1 : c ≤ 255) (w : World) : Calls Try.prog 8 #[.int .u8 c] w fun e w' => e = .returned (.bool (itemB c)) ∧ w' = w := by
  have H : Hid ((97 ≤ bits BinOp.or IntKind.u8 c 32 ∧ bits BinOp.or IntKind.u8 c 32 ≤ 122) ↔ ((97 ≤ c ∧ c ≤ 122) ∨ (65 ≤ c ∧ c ≤ 90))) := or32 c h0 h1
  go_enter Try.func8, Try.ntmps8
  go_wp2
  all_goals
    go_ret
    refine ⟨ret_bool ?_, rfl⟩
    have HH := H.out
    unfold itemB
    rw [Bool.eq_iff_iff]
    first | omega | (simp_all; done) | (simp_all; omega)

/-- Is it a name? -/
def itemS (l : List UInt8) : Bool := !l.isEmpty && l.all fun c => itemB (c.toNat : Int)

/-- The same of a string. -/
def isB (s : ByteArray) : Bool := itemS s.data.toList

theorem take_snoc (s : ByteArray) (k : Nat) (h : k < s.size) : s.data.toList.take (k + 1) = s.data.toList.take k ++ [s[k]] := by
  rw [List.take_succ_eq_append_getElem (by simpa using h)]; rfl

def allTo (s : ByteArray) (k : Nat) : Bool := (s.data.toList.take k).all fun c => itemB (c.toNat : Int)
theorem allTo_succ (s : ByteArray) (k : Nat) (h : k < s.size) : allTo s (k + 1) = (allTo s k && itemB (s[k].toNat : Int)) := by
  unfold allTo; rw [take_snoc s k h, List.all_append]; simp
theorem allTo_end (s : ByteArray) : allTo s s.size = s.data.toList.all fun c => itemB (c.toNat : Int) := by
  unfold allTo; rw [List.take_of_length_le (by simp)]
theorem allTo_no (s : ByteArray) (k : Nat) (h : k < s.size) (hn : itemB (s[k].toNat : Int) = false) : (s.data.toList.all fun c => itemB (c.toNat : Int)) = false := by
  rw [← Bool.not_eq_true, List.all_eq_true]
  intro H
  have : s[k] ∈ s.data.toList := Array.mem_toList_iff.2 (Array.getElem_mem h)
  rw [H _ this] at hn
  cases hn

set_option maxHeartbeats 400000 in
theorem isItem_any (s : ByteArray) (hs : s.size ≤ maxLen) (w : World) : Calls Try.prog 7 #[.string s] w fun e w' => e = .returned (.bool (isB s)) ∧ w' = w := by
  unfold maxLen at hs
  by_cases he : s.data.toList = []
  · have hx : s.toList.isEmpty = true := by rw [ByteArray.toList_eq]; simp [he]
    go_enter Try.func7, Try.ntmps7
    go_wp2
    go_ret
    exact ⟨ret_bool (by simp [isB, itemS, he]), rfl⟩
  · have hx : s.toList.isEmpty = false := by rw [ByteArray.toList_eq]; cases h : s.data.toList; exact absurd h he; rfl
    go_enter Try.func7, Try.ntmps7
    go_wp2
    go_loop [3] (fun i => ∃ k : Nat, k ≤ s.size ∧ i = .int .i64 k ∧ Hid (allTo s k = true)) (fun i => s.size - (intOf i).toNat)
    case atStart => exact ⟨0, Nat.zero_le _, rfl, by simp [Hid, allTo]⟩
    case round =>
      obtain ⟨k, hk, rfl, hall⟩ := hrel
      by_cases hlt : k < s.size
      · by_cases hb : itemB (s[k].toNat : Int) = true
        · go_wp2_with (go_at_call 14; refine (itemByte_any _ _).mono ?_; rintro e w' ⟨rfl, rfl⟩)
          go_round
          case rel => exact ⟨k + 1, by omega, by go_num, by simp only [Hid]; rw [allTo_succ s k hlt, hall.out, hb]; rfl⟩
          case measure => simp [intOf]; omega
        · simp only [Bool.not_eq_true] at hb
          go_wp2_with (go_at_call 14; refine (itemByte_any _ _).mono ?_; rintro e w' ⟨rfl, rfl⟩)
          go_ret
          exact ⟨ret_bool (by unfold isB itemS; rw [allTo_no s k hlt hb]; simp), rfl⟩
      · go_wp2
        go_ret
        have : k = s.size := by omega
        subst this
        exact ⟨ret_bool (by unfold isB itemS; rw [← allTo_end, hall.out]; cases h : s.data.toList; exact absurd h he; rfl), rfl⟩

theorem small_yes (s : ByteArray) (i : Int) (h : (s.size : Int) ≤ 1048576) (w : World) : Calls Try.prog 6 #[.string s, .int .i64 i] w fun e w' => e = .returned (.bool true) ∧ w' = w := by
  go_enter Try.func6, Try.ntmps6
  go_wp2
  go_ret
  exact ⟨rfl, rfl⟩
theorem small_no (s : ByteArray) (i : Int) (h : ¬ (s.size : Int) ≤ 1048576) (w : World) : Calls Try.prog 6 #[.string s, .int .i64 i] w fun e w' => e = .returned (.bool false) ∧ w' = w := by
  go_enter Try.func6, Try.ntmps6
  go_wp2
  go_ret
  exact ⟨rfl, rfl⟩
theorem itemS_one (s : ByteArray) (h : 0 < s.size) : isB (s.extract 0 1) = itemB ((s[0]).toNat : Int) := by
  unfold isB
  rw [Lib.extract_data]
  have : s.data.toList = s[0] :: s.data.toList.drop 1 := by
    have := take_snoc s 0 h
    conv => lhs; rw [← List.take_append_drop 1 s.data.toList, this]
    simp
  rw [this]
  simp [itemS]
theorem itemS_cut (s : ByteArray) (i : Nat) (h1 : 1 ≤ i) (h2 : i < s.size) : isB s = (isB (s.extract 0 i) && isB (s.extract i s.size)) := by
  unfold isB
  rw [Lib.extract_data, Lib.extract_data]
  have hl : s.data.toList.length = s.size := by simp
  generalize s.data.toList = l at hl ⊢
  rw [List.drop_zero, Nat.sub_zero, List.take_of_length_le (l := l.drop i) (by simp; omega)]
  have e1 : l.isEmpty = false := by cases l; simp at hl; omega; rfl
  have e2 : (l.take i).isEmpty = false := by simp; constructor; omega; intro h; subst h; simp at hl; omega
  have e3 : (l.drop i).isEmpty = false := by simp; omega
  unfold itemS
  rw [e1, e2, e3]
  conv => lhs; rw [← List.take_append_drop i l, List.all_append]
  simp


end Go.Proofs.Qxb6621682a
