import Derived.Test.Qxb6617408aRows
import Derived.WalkKit
import Derived.ProofKit
import Derived.WalkSpells
import Derived.WalkSmall
import Derived.Deep.QuietTactic
import Derived.BigQuiet
import Derived.BigRegion
import Derived.Deep.OwnRows
import Derived.Deep.RegionWith
import Derived.Deep.DeepCutAuto
import Derived.Laws.CopyOwn
namespace Go.Proofs.Qxb6617408a
open Go.RowKit

theorem hide {p : Prop} (h : p) : Hid p := h

/-! ### Families of strings -/
/-- Does the string stand among the first n? -/
def Has (S : Nat → ByteArray) (n : Nat) (q : ByteArray) : Prop := ∃ i, i < n ∧ (S i).data.toList = q.data.toList
def hasB (S : Nat → ByteArray) (n : Nat) (q : ByteArray) : Bool := (List.range n).any fun i => (S i).data.toList == q.data.toList
theorem hasB_true {S : Nat → ByteArray} {n : Nat} {q : ByteArray} (h : Has S n q) : hasB S n q = true := by
  obtain ⟨i, hi, e⟩ := h
  exact List.any_eq_true.2 ⟨i, List.mem_range.2 hi, by simp [e]⟩
theorem hasB_false {S : Nat → ByteArray} {n : Nat} {q : ByteArray} (h : ¬ Has S n q) : hasB S n q = false := by
  unfold hasB
  rw [List.any_eq_false]
  intro i hi e
  exact h ⟨i, List.mem_range.1 hi, by simpa using e⟩
theorem has_cut (S : Nat → ByteArray) (n i : Nat) (q : ByteArray) (hi : i ≤ n) : hasB S n q = (hasB S i q || hasB (fun j => S (i + j)) (n - i) q) := by
  by_cases h1 : Has S i q
  · rw [hasB_true h1]
    obtain ⟨j, hj, e⟩ := h1
    rw [hasB_true ⟨j, by omega, e⟩]; rfl
  · by_cases h2 : Has (fun j => S (i + j)) (n - i) q
    · rw [hasB_false h1, hasB_true h2]
      obtain ⟨j, hj, e⟩ := h2
      rw [hasB_true ⟨i + j, by omega, e⟩]; rfl
    · rw [hasB_false h1, hasB_false h2, hasB_false]
      · rfl
      · rintro ⟨j, hj, e⟩
        by_cases c : j < i
        · exact h1 ⟨j, c, e⟩
        · exact h2 ⟨j - i, by omega, by show (S (i + (j - i))).data.toList = _; rw [show i + (j - i) = j by omega]; exact e⟩
/-- s put in at i. -/
def insF (S : Nat → ByteArray) (i : Nat) (s : ByteArray) (j : Nat) : ByteArray := if j < i then S j else if j = i then s else S (j - 1)

/-! ### Lists of strings in memory -/
/-- What a walk is told of a list of strings. -/
def StrsIn (w : World) (ao : Option Addr) (n : Nat) (S : Nat → ByteArray) : Prop :=
  0 < n → ∃ b off, ao = some ⟨b, off, none⟩ ∧ b < w.heap.size ∧ ∀ i, i < n → w.cell? ⟨b, off + i, none⟩ = some (.string (S i))
theorem StrsIn.later {w w' : World} {ao : Option Addr} {n : Nat} {S : Nat → ByteArray} (h : StrsIn w ao n S) (hb : Below w.heap.size w w') : StrsIn w' ao n S := fun hn => by
  obtain ⟨b, off, e, hlt, hc⟩ := h hn
  exact ⟨b, off, e, Nat.lt_of_lt_of_le hlt hb.size, fun i hi => (hb.cell hlt).trans (hc i hi)⟩
theorem StrsIn.head {w : World} {ao : Option Addr} {n : Nat} {S : Nat → ByteArray} (h : StrsIn w ao n S) {k : Nat} (hk : k ≤ n) : StrsIn w ao k S := fun h0 => by
  obtain ⟨b, off, e, hb, hc⟩ := h (by omega)
  exact ⟨b, off, e, hb, fun i hi => hc i (by omega)⟩
theorem StrsIn.rest {w : World} {ao : Option Addr} {n : Nat} {S : Nat → ByteArray} (h : StrsIn w ao n S) (k : Nat) : StrsIn w (Option.map (fun x => x.add k) ao) (n - k) (fun j => S (k + j)) := fun h0 => by
  obtain ⟨b, off, rfl, hb, hc⟩ := h (by omega)
  refine ⟨b, off + k, by simp [WideShapes.add_plain], hb, fun i hi => ?_⟩
  rw [← hc (k + i) (by omega), Nat.add_assoc]

theorem Try.info9 : (Try.prog.info? 9).map (fun i => (i.zero, i.size, i.bytes)) = some (some (.string ByteArray.empty), 1, 16) := by kernel_rfl
theorem sz9 : (Try.prog.info? 9).map (·.size) = some 1 := by kernel_rfl
def strV (f : Nat → ByteArray) (i : Nat) : Value := .string (f i)
def put (b : Nat → ByteArray) (k : Nat) (v : ByteArray) (x : Nat) : ByteArray := if x = k then v else b x
theorem put_at (b : Nat → ByteArray) (k : Nat) (v : ByteArray) : put b k v k = v := if_pos rfl
theorem put_off {b : Nat → ByteArray} {k x : Nat} {v : ByteArray} (h : x ≠ k) : put b k v x = b x := if_neg h
theorem row_later {w w' : World} {g : Nat} {t : TypeId} {n : Nat} {f : Nat → Value} (h : w.rowIs g t n f) (hb : Below w.heap.size w w') : w'.rowIs g t n f := h.of_block (hb.block g h.lt)
theorem row_put {w : World} {b n k : Nat} {f : Nat → ByteArray} {v : ByteArray} (h : w.rowIs b 9 n (strV f)) : (w.setCell ⟨b, k, none⟩ (.string v)).rowIs b 9 n (strV (put f k v)) :=
  (h.set k _).congr fun i _ => by unfold strV put; split <;> rfl

/-- make([]string, 0, n). -/
theorem make_strs (n : Nat) (hn : n ≤ 1048576) (w : World) :
    (Instr.makeSlice 22 (.int .i64 0) (.int .i64 (n : Int))).run Try.prog w = .ok (.slice (some ⟨w.heap.size, 0, none⟩) 0 n) (w.alloc (.cells (madeCells #[.string ByteArray.empty] n) 9)) := by
  obtain ⟨i, hi, hz0, hz1, hz2⟩ := info_parts Try.info9
  have hr := run_make (P := Try.prog) w 22 9 i _ Try.underlying22 hi hz0 .i64 .i64 0 n (by omega) (by omega) (by rw [hz2]; omega) (by omega)
  rw [hr, hz1]
  simp [Value.cells]

/-! ### The copy -/
def cellsOf (S : Nat → ByteArray) (m : Nat) : List Value := (List.range m).map (strV S)
theorem copy_below (w : World) (m : Nat) : Below w.heap.size w (w.alloc (.cells (madeCells #[.string ByteArray.empty] m) 9)) := (Below.refl _ _).alloc (Nat.le_refl _) _
theorem copy_list {w : World} {S : Nat → ByteArray} (xa : Addr) (m c : Nat) (hx : StrsIn w (some xa) m S) :
    ∃ w2, (Builtin.copy_ #[22, 22] 3 #[.slice (some ⟨w.heap.size, 0, none⟩) m m, .slice (some xa) m c]).run Try.prog (w.alloc (.cells (madeCells #[.string ByteArray.empty] m) 9)) = .ok (goInt m) w2 ∧ Below w.heap.size w w2 ∧
      StrsIn w2 (some ⟨w.heap.size, 0, none⟩) m S := by
  by_cases h0 : m = 0
  · subst h0
    exact ⟨_, run_copy_none (P := Try.prog) _ 22 22 3 9 _ _ 0 0 0 c Try.underlying22 sz9 rfl, copy_below w 0, fun h => absurd h (by omega)⟩
  · obtain ⟨b, off, e, hlt, hc⟩ := hx (by omega)
    cases e
    have hl : (cellsOf S m).length = m := by simp [cellsOf]
    have hr := run_copy_row (P := Try.prog) (w.alloc (.cells (madeCells #[.string ByteArray.empty] m) 9)) 22 22 3 9 w.heap.size 0 m m ⟨b, off, none⟩ m c (madeCells #[.string ByteArray.empty] m) 9 (cellsOf S m) Try.underlying22 sz9
      (heap_alloc_new _ _) (by rw [hl]; simp) (fun j v hj => by
        unfold cellsOf at hj
        rw [List.getElem?_map] at hj
        by_cases hjm : j < m
        · rw [List.getElem?_range hjm] at hj
          simp at hj
          rw [WideShapes.add_plain, ← hj]
          exact ((copy_below w m).cell hlt).trans (hc j hjm)
        · rw [List.getElem?_eq_none (by simpa using hjm)] at hj
          simp at hj) (by rw [hl, size_madeCells]; omega) (fun v hv => by
        simp [cellsOf] at hv
        obtain ⟨i, _, rfl⟩ := hv
        rfl)
    rw [hl] at hr
    refine ⟨_, hr, below_setRow (copy_below w m) (Nat.le_refl _) _, fun _ => ⟨w.heap.size, 0, rfl, by simp, fun i hi => ?_⟩⟩
    have hrow := setRow_heap (w.alloc (.cells (madeCells #[.string ByteArray.empty] m) 9)) w.heap.size (madeCells #[.string ByteArray.empty] m) ((madeCells #[.string ByteArray.empty] m).toList.take 0 ++ cellsOf S m ++ (madeCells #[.string ByteArray.empty] m).toList.drop (0 + m)).toArray 9 (0, 0) (heap_alloc_new _ _)
    simp only [World.cell?, hrow]
    simp [cellsOf]
    rw [List.getElem?_append_left (by simpa using hi)]
    simp [hi, strV]

/-! ### The walks of the callees -/
def Says (w : World) (Q : Bool → Prop) (e : Ending) (w' : World) : Prop := ∃ r, e = .returned (.bool r) ∧ w' = w ∧ Q r
theorem Says.mk {w : World} {Q : Bool → Prop} (r : Bool) (h : Q r) : Says w Q (.returned (.bool r)) w := ⟨r, rfl, rfl, h⟩
def Short (S : Nat → ByteArray) (n : Nat) : Prop := ∀ i, i < n → (S i).size ≤ 1048576

set_option maxHeartbeats 1000000 in
theorem contains6 (ao : Option Addr) (n cap : Nat) (S : Nat → ByteArray) (q : ByteArray) (w : World) (hn : n ≤ 1048576) (h : StrsIn w ao n S) :
    Calls Try.prog 6 #[.slice ao n cap, .string q] w fun e w' => e = .returned (.bool (hasB S n q)) ∧ w' = w := by
  go_enter Try.func6, Try.ntmps6
  go_wp2
  go_loop [9] (fun i => ∃ k : Nat, k ≤ n ∧ i = .int .i64 k ∧ Hid (∀ j, j < k → (S j).data.toList ≠ q.data.toList)) (fun i => n - (intOf i).toNat)
  case atStart => exact ⟨0, Nat.zero_le _, rfl, fun j hj => by omega⟩
  case round =>
    obtain ⟨k, hk, rfl, hno⟩ := hrel
    by_cases hlt : k < n
    · obtain ⟨b, off, rfl, hb, hc⟩ := h (by omega)
      have hck := hc k hlt
      clear hc
      by_cases he : (S k).data.toList = q.data.toList
      · have hbq : ((S k).toList == q.toList) = true := by rw [ByteArray.toList_eq, ByteArray.toList_eq, he]; simp
        have hyes : Hid (hasB S n q = true) := hasB_true ⟨k, hlt, he⟩
        clear he
        go_wp2
        go_ret
        exact ⟨by rw [hyes.out]; rfl, rfl⟩
      · have hbq : ((S k).toList == q.toList) = false := by rw [ByteArray.toList_eq, ByteArray.toList_eq]; simpa using he
        have HE := hide he
        clear he
        go_wp2
        go_round
        case rel =>
          refine ⟨k + 1, by omega, by go_num, fun j hj => ?_⟩
          by_cases e : j = k
          · subst e; exact HE.out
          · exact hno.out j (by omega)
        case measure => simp [intOf]; omega
    · have hnot : Hid (hasB S n q = false) := hasB_false fun ⟨j, hj, e⟩ => hno.out j (by omega) e
      go_wp2
      go_ret
      exact ⟨by rw [hnot.out]; rfl, rfl⟩

theorem contains_any (ao : Option Addr) (n cap : Nat) (S : Nat → ByteArray) (q : ByteArray) (w : World) (hn : n ≤ 1048576) (h : StrsIn w ao n S) :
    Calls Try.prog 5 #[.slice ao n cap, .string q] w fun e w' => e = .returned (.bool (hasB S n q)) ∧ w' = w := by
  go_enter Try.func5, Try.ntmps5
  go_wp2_with fail
  refine (contains6 ao n cap S q _ hn h).mono ?_
  rintro e w1 ⟨rfl, rfl⟩
  go_wp2
  go_ret
  exact ⟨rfl, rfl⟩

set_option maxHeartbeats 1000000 in
theorem bytes4 (ao : Option Addr) (n cap : Nat) (S : Nat → ByteArray) (q : ByteArray) (i : Int) (w : World) (hn : n ≤ maxLen) (hq : q.size ≤ maxLen) (ha : StrsIn w ao n S) :
    Calls Try.prog 4 #[.slice ao n cap, .string q, .int .i64 i] w (Says w fun r => r = true → n ≤ 1048576 ∧ Short S n ∧ q.size ≤ 1048576) := by
  unfold maxLen at hn hq
  by_cases h1 : (n : Int) ≤ 1048576
  · go_enter Try.func4, Try.ntmps4
    go_wp2
    go_loop [7, 8] (fun t i => ∃ (k : Nat) (z : Int), k ≤ n ∧ i = .int .i64 k ∧ 0 ≤ z ∧ z ≤ 1048576 ∧ t = .int .i64 z ∧ Hid (Short S k)) (fun _ i => n - (intOf i).toNat)
    case atStart => exact ⟨0, _, Nat.zero_le _, rfl, by omega, h1, rfl, fun i hi => by omega⟩
    case round =>
      obtain ⟨k, z, hk, rfl, hz0, hz1, rfl, hall⟩ := hrel
      by_cases hlt : k < n
      · obtain ⟨b, off, rfl, hbl, hc⟩ := ha (by omega)
        have hck := hc k hlt
        clear hc
        by_cases hl : ((S k).size : Int) ≤ 1048576
        · by_cases h3 : z + ((S k).size : Int) ≤ 1048576
          · go_wp2
            go_round
            case rel =>
              refine ⟨k + 1, _, by omega, by go_num, by omega, h3, rfl, fun i hi => ?_⟩
              by_cases e : i = k
              · subst e; omega
              · exact hall i (by omega)
            case measure => simp [intOf]; omega
          · go_wp2
            go_ret
            exact Says.mk _ (by simp)
        · go_wp2
          go_ret
          exact Says.mk _ (by simp)
      · have hkn : n = k := by omega
        subst hkn
        by_cases h7 : (q.size : Int) ≤ 1048576
        · by_cases h8 : z + (q.size : Int) ≤ 1048576
          · go_wp2
            go_ret
            exact Says.mk _ fun _ => ⟨by omega, hall.out, by omega⟩
          · go_wp2
            go_ret
            exact Says.mk _ (by simp)
        · go_wp2
          go_ret
          exact Says.mk _ (by simp)
  · go_enter Try.func4, Try.ntmps4
    go_wp2
    go_ret
    exact Says.mk _ (by simp)
end Go.Proofs.Qxb6617408a
