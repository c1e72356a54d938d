import Derived.Test.Qxb6617329aRows
import Derived.WalkKit
import Derived.ProofKit
import Derived.WalkSpells
import Derived.WalkSmall
import Derived.Deep.QuietTactic
import Derived.BigQuiet
import Derived.Deep.OwnRows
import Derived.Deep.RegionWith
import Derived.Deep.DeepCutAuto
namespace Go.Proofs.Qxb6617329a
open Go.RowKit

/-! ### The sum, with no Go in sight -/
/-- What DataSize computes: the sum of the values above 0, wrapped at every step. -/
def ds (X : Nat → Int) : Nat → Int
  | 0 => 0
  | k + 1 => if 0 < X k then wrap64 (ds X k + X k) else ds X k
/-- .. and not wrapped at all. -/
def pos (X : Nat → Int) : Nat → Int
  | 0 => 0
  | k + 1 => pos X k + max (X k) 0
theorem wrap_wrap_add (a b : Int) : wrap64 (wrap64 a + b) = wrap64 (a + b) := by unfold wrap64; omega
theorem ds_pos (X : Nat → Int) : ∀ n, ds X n = wrap64 (pos X n)
  | 0 => by simp [ds, pos, wrap64]
  | k + 1 => by
    have ih := ds_pos X k
    unfold ds pos
    split
    · rename_i h
      rw [ih, wrap_wrap_add, show max (X k) 0 = X k by omega]
    · rename_i h
      rw [ih, show max (X k) 0 = 0 by omega, Int.add_zero]
theorem pos_congr {X Y : Nat → Int} : ∀ {n : Nat}, (∀ i, i < n → X i = Y i) → pos X n = pos Y n
  | 0, _ => rfl
  | k + 1, h => by
    unfold pos
    rw [pos_congr (n := k) fun i hi => h i (by omega), h k (by omega)]
theorem pos_add (X : Nat → Int) (i : Nat) : ∀ m, pos X (i + m) = pos X i + pos (fun j => X (i + j)) m
  | 0 => by simp [pos]
  | m + 1 => by
    have ih := pos_add X i m
    show pos X (i + m) + max (X (i + m)) 0 = pos X i + (pos (fun j => X (i + j)) m + max (X (i + m)) 0)
    rw [ih, Int.add_assoc]
/-- v put in at i. -/
def insF (X : Nat → Int) (i : Nat) (v : Int) (j : Nat) : Int := if j < i then X j else if j = i then v else X (j - 1)
theorem pos_ins (X : Nat → Int) (i n : Nat) (v : Int) (h : i ≤ n) : pos (insF X i v) (n + 1) = pos X n + max v 0 := by
  obtain ⟨m, rfl⟩ : ∃ m, n = i + m := ⟨n - i, by omega⟩
  rw [show i + m + 1 = (i + 1) + m by omega, pos_add, pos_add X i m]
  have e1 : pos (insF X i v) (i + 1) = pos X i + max v 0 := by
    show pos (insF X i v) i + max (insF X i v i) 0 = _
    rw [pos_congr (Y := X) fun j hj => by unfold insF; rw [if_pos hj]]
    congr 2
    unfold insF
    rw [if_neg (by omega), if_pos rfl]
  have e2 : pos (fun j => insF X i v (i + 1 + j)) m = pos (fun j => X (i + j)) m := pos_congr fun j _ => by
    unfold insF
    rw [if_neg (by omega), if_neg (by omega)]
    congr 1; omega
  rw [e1, e2]
  omega
theorem grows (X : Nat → Int) (i n : Nat) (v : Int) (h : i ≤ n) (hv : -9223372036854775808 ≤ v ∧ v ≤ 9223372036854775807) : wrap64 (ds (insF X i v) (n + 1) - ds X n) = max v 0 := by
  rw [ds_pos, ds_pos, pos_ins X i n v h]
  generalize pos X n = p
  unfold wrap64
  omega
theorem pos_cut (X : Nat → Int) (i n : Nat) (h : i ≤ n) : pos X i + pos (fun j => X (i + j)) (n - i) = pos X n := by
  rw [← pos_add, show i + (n - i) = n by omega]
theorem parts (X : Nat → Int) (i n : Nat) (h : i ≤ n) : wrap64 (ds X i + ds (fun j => X (i + j)) (n - i)) = ds X n := by
  rw [ds_pos, ds_pos, ds_pos, ← pos_cut X i n h]
  generalize pos X i = p
  generalize pos (fun j => X (i + j)) (n - i) = q
  unfold wrap64
  omega
theorem ds_congr {X Y : Nat → Int} {n : Nat} (h : ∀ i, i < n → X i = Y i) : ds X n = ds Y n := by rw [ds_pos, ds_pos, pos_congr h]

/-! ### The walks -/
/-- What a walk is told of a list of int64s. -/
def IntsIn (w : World) (ao : Option Addr) (n : Nat) (X : Nat → Int) : Prop :=
  0 < n → ∃ b off, ao = some ⟨b, off, none⟩ ∧ b < w.heap.size ∧ ∀ i, i < n → w.cell? ⟨b, off + i, none⟩ = some (.int .i64 (X i))
theorem IntsIn.later {w w' : World} {ao : Option Addr} {n : Nat} {X : Nat → Int} (h : IntsIn w ao n X) (hb : Below w.heap.size w w') : IntsIn w' ao n X := fun hn => by
  obtain ⟨b, off, e, hlt, hc⟩ := h hn
  exact ⟨b, off, e, Nat.lt_of_lt_of_le hlt hb.size, fun i hi => (hb.cell hlt).trans (hc i hi)⟩
theorem IntsIn.head {w : World} {ao : Option Addr} {n : Nat} {X : Nat → Int} (h : IntsIn w ao n X) {k : Nat} (hk : k ≤ n) : IntsIn w ao k X := fun h0 => by
  obtain ⟨b, off, e, hb, hc⟩ := h (by omega)
  exact ⟨b, off, e, hb, fun i hi => hc i (by omega)⟩
theorem IntsIn.rest {w : World} {ao : Option Addr} {n : Nat} {X : Nat → Int} (h : IntsIn w ao n X) (k : Nat) : IntsIn w (Option.map (fun x => x.add k) ao) (n - k) (fun j => X (k + j)) := fun h0 => by
  obtain ⟨b, off, rfl, hb, hc⟩ := h (by omega)
  refine ⟨b, off + k, by simp [WideShapes.add_plain], hb, fun i hi => ?_⟩
  rw [← hc (k + i) (by omega), Nat.add_assoc]

def SizeOf (w : World) (X : Nat → Int) (n : Nat) (e : Ending) (w' : World) : Prop := e = .returned (.int .i64 (ds X n)) ∧ Below w.heap.size w w'

theorem ret_int {k : IntKind} {a b : Int} (h : a = b) : Ending.returned (.int k a) = .returned (.int k b) := by rw [h]

set_option maxHeartbeats 1000000 in
theorem dataSize_any (ao : Option Addr) (n cap : Nat) (so : Option Addr) (sl sc : Nat) (X : Nat → Int) (w : World) (hn : n ≤ 1048577) (h : IntsIn w ao n X) :
    Calls Try.prog 7 #[.agg #[.slice ao n cap, .slice so sl sc]] w (SizeOf w X n) := by
  go_enter Try.func7, Try.ntmps7
  go_wp2
  go_loop [3, 9] (fun t i => ∃ k : Nat, k ≤ n ∧ i = .int .i64 k ∧ t = .int .i64 (ds X k)) (fun _ i => n - (intOf i).toNat)
  case atStart => exact ⟨0, Nat.zero_le _, rfl, rfl⟩
  case round =>
    obtain ⟨k, hk, rfl, rfl⟩ := hrel
    by_cases hlt : k < n
    · obtain ⟨b, off, rfl, hb, hc⟩ := h (by omega)
      have hck : ∀ o, (w.alloc o).cell? ⟨b, off + k, none⟩ = some (.int .i64 (X k)) := fun o => (((Below.refl _ w).alloc (Nat.le_refl _) o).cell hb).trans (hc k hlt)
      clear hc
      by_cases hp : 0 < X k
      · have HS : Hid (ds X (k + 1) = wrap64 (ds X k + X k)) := if_pos hp
        go_wp2
        go_round
        case rel => exact ⟨k + 1, by omega, by go_num, by rw [HS.out]⟩
        case measure => simp [intOf]; omega
      · have HS : Hid (ds X (k + 1) = ds X k) := if_neg hp
        go_wp2
        go_round
        case rel => exact ⟨k + 1, by omega, by go_num, by rw [HS.out]⟩
        case measure => simp [intOf]; omega
    · have hkn : n = k := by omega
      subst hkn
      go_wp2
      go_ret
      exact ⟨rfl, (Below.refl _ _).alloc (Nat.le_refl _) _⟩

/-- The answer is a Bool r, the world has not turned, and Q holds of r. -/
def Says (w : World) (Q : Bool → Prop) (e : Ending) (w' : World) : Prop := ∃ r, e = .returned (.bool r) ∧ w' = w ∧ Q r
theorem Says.mk {w : World} {Q : Bool → Prop} (r : Bool) (h : Q r) : Says w Q (.returned (.bool r)) w := ⟨r, rfl, rfl, h⟩

set_option maxHeartbeats 1000000 in
theorem bytes6 (ao : Option Addr) (n cap : Nat) (so : Option Addr) (m sc : Nat) (i v : Int) (w : World) (hn : n ≤ maxLen) (hm : m ≤ maxLen) :
    Calls Try.prog 6 #[.slice ao n cap, .slice so m sc, .int .i64 i, .int .i64 v] w (Says w fun r => r = true → n ≤ 1048576 ∧ m ≤ 1048576) := by
  unfold maxLen at hn hm
  by_cases h1 : (n : Int) ≤ 1048576
  · by_cases h2 : (m : Int) ≤ 1048576
    · by_cases h3 : (n : Int) + (m : Int) ≤ 1048576
      · go_enter Try.func6, Try.ntmps6
        go_wp2
        go_ret
        exact Says.mk _ fun _ => ⟨by omega, by omega⟩
      · go_enter Try.func6, Try.ntmps6
        go_wp2
        go_ret
        exact Says.mk _ (by simp)
    · go_enter Try.func6, Try.ntmps6
      go_wp2
      go_ret
      exact Says.mk _ (by simp)
  · go_enter Try.func6, Try.ntmps6
    go_wp2
    go_ret
    exact Says.mk _ (by simp)

theorem Try.info2 : (Try.prog.info? 2).map (fun i => (i.zero, i.size, i.bytes)) = some (some (.int .i64 0), 1, 8) := by kernel_rfl

def intV (f : Nat → Int) (i : Nat) : Value := .int .i64 (f i)
def putF (f : Nat → Int) (k : Nat) (v : Int) (x : Nat) : Int := if x = k then v else f x
theorem row_put {w : World} {b n k : Nat} {f : Nat → Int} {v : Int} (h : w.rowIs b 2 n (intV f)) : (w.setCell ⟨b, k, none⟩ (.int .i64 v)).rowIs b 2 n (intV (putF f k v)) :=
  (h.set k _).congr fun i _ => by unfold intV putF; split <;> rfl

def True5 (w : World) (e : Ending) (w' : World) : Prop := e = .returned (.bool true) ∧ Below w.heap.size w w'

set_option maxRecDepth 100000 in
set_option maxHeartbeats 2000000 in
theorem law_in (ao : Option Addr) (n cap : Nat) (X : Nat → Int) (so : Option Addr) (m sc : Nat) (i : Nat) (v : Int) (w : World) (hnc : n ≤ cap) (hcap : cap ≤ maxLen) (hm : m ≤ maxLen) (hi : i ≤ n)
    (hv : -9223372036854775808 ≤ v ∧ v ≤ 9223372036854775807) (h : IntsIn w ao n X) :
    Calls Try.prog 3 #[.slice ao n cap, .slice so m sc, .int .i64 i, .int .i64 v] w (True5 w) := by
  have HM : Hid (n ≤ maxLen ∧ m ≤ maxLen ∧ cap ≤ maxLen) := ⟨by omega, hm, hcap⟩
  have HG : Hid (wrap64 (ds (insF X i v) (n + 1) - ds X n) = max v 0) := grows X i n v hi hv
  have HP : Hid (wrap64 (ds X i + ds (fun j => X (i + j)) (n - i)) = ds X n) := parts X i n hi
  have hcap' : cap ≤ 9223372036854775807 := by unfold maxLen at hcap; omega
  clear hm hcap hv
  go_enter Try.func3, Try.ntmps3
  go_wp2_with fail
  refine (bytes6 ao n cap so m sc i v _ HM.out.1 HM.out.2.1).mono ?_
  rintro e w1 ⟨r, rfl, rfl, hr⟩
  cases r with
  | false =>
    go_wp2
    go_ret
    exact ⟨rfl, Below.refl _ _⟩
  | true =>
    obtain ⟨hn, hm⟩ := hr rfl
    have hm' : (m : Int) ≤ 1048576 := by omega
    by_cases g1 : (n : Int) ≤ 131072
    · by_cases g2 : 8 * (n : Int) + (m : Int) ≤ 1048576
      · have hmk := run_make_row' (P := Try.prog) 22 2 (.int .i64 0) 8 Try.underlying22 Try.info2 rfl .i64 .i64 (n + 1) (by omega) (by omega)
        simp only [Int.natCast_add, Int.natCast_one] at hmk
        go_wp2
        go_loopw [10] (fun j wr => ∃ (k : Nat) (F : Nat → Int), k ≤ i ∧ j = .int .i64 k ∧ wr.rowIs w1.heap.size 2 (n + 1) (intV F) ∧ Hid (∀ j, j < k → F j = insF X i v j) ∧ Below w1.heap.size w1 wr) (fun j _ => i - (intOf j).toNat)
        case atStart => exact ⟨0, fun _ => 0, Nat.zero_le _, rfl, World.rowIs_made w1 _ (n + 1) 2, fun j hj => by omega, (Below.refl _ _).alloc (Nat.le_refl _) _⟩
        case round =>
          obtain ⟨k, F, hk, rfl, hrow, hF, hbel⟩ := hrel
          by_cases hlt : k < i
          · obtain ⟨b, off, rfl, hb, hc⟩ := h (by omega)
            have c0 : wr.cell? ⟨b, off + k, none⟩ = some (.int .i64 (X k)) := (hbel.cell hb).trans (hc k (by omega))
            have d0 : wr.cell? ⟨w1.heap.size, k, none⟩ = some (.int .i64 (F k)) := hrow.cell (by omega)
            have f0 := hrow.frozen k
            have hkn : (k : Int) < (n : Int) := by omega
            clear hc
            go_wp2
            go_roundw
            case rel =>
              refine ⟨k + 1, putF F k (X k), by omega, by go_num, row_put hrow, fun j hj => ?_, hbel.setCell (Nat.le_refl _) _⟩
              unfold putF
              split
              · rename_i e; subst e; unfold insF; rw [if_pos hlt]
              · exact hF.out j (by omega)
            case measure => simp [intOf]; omega
          · have hki : i = k := by omega
            subst hki
            have d0 : wr.cell? ⟨w1.heap.size, i, none⟩ = some (.int .i64 (F i)) := hrow.cell (by omega)
            have f0 := hrow.frozen i
            have hii : (i : Int) < (n : Int) + 1 := by omega
            go_wp2
            go_loopw [11] (fun j wr => ∃ (z : Nat) (F : Nat → Int), i ≤ z ∧ z ≤ n ∧ j = .int .i64 z ∧ wr.rowIs w1.heap.size 2 (n + 1) (intV F) ∧ Hid (∀ j, j < z + 1 → F j = insF X i v j) ∧ Below w1.heap.size w1 wr) (fun j _ => n - (intOf j).toNat)
            case atStart =>
              refine ⟨i, putF F i v, Nat.le_refl _, hi, rfl, row_put hrow, fun j hj => ?_, hbel.setCell (Nat.le_refl _) _⟩
              unfold putF
              split
              · rename_i e; subst e; unfold insF; rw [if_neg (by omega), if_pos rfl]
              · exact hF.out j (by omega)
            case round =>
              clear hrow hF hbel d0 f0
              obtain ⟨z, F, hz1, hz2, rfl, hrow, hF, hbel⟩ := hrel
              by_cases hlt : z < n
              · obtain ⟨b, off, rfl, hb, hc⟩ := h (by omega)
                have c0 : wr.cell? ⟨b, off + z, none⟩ = some (.int .i64 (X z)) := (hbel.cell hb).trans (hc z (by omega))
                have d0 : wr.cell? ⟨w1.heap.size, z + 1, none⟩ = some (.int .i64 (F (z + 1))) := hrow.cell (by omega)
                have f0 := hrow.frozen (z + 1)
                clear hc
                go_wp2
                go_roundw
                case rel =>
                  refine ⟨z + 1, putF F (z + 1) (X z), by omega, by omega, by go_num, row_put hrow, fun j hj => ?_, hbel.setCell (Nat.le_refl _) _⟩
                  unfold putF
                  split
                  · rename_i e; subst e; unfold insF; rw [if_neg (by omega), if_neg (by omega)]; congr 1
                  · exact hF.out j (by omega)
                case measure => simp [intOf]; omega
              · have hzn : n = z := by omega
                subst hzn
                have hgr : IntsIn wr (some ⟨w1.heap.size, 0, none⟩) (n + 1) (insF X i v) := fun _ => ⟨w1.heap.size, 0, rfl, hrow.lt, fun j hj => by
                  rw [Nat.zero_add, hrow.cell hj]; unfold intV; rw [hF.out j hj]⟩
                have h2 := h.later hbel
                clear hmk hrow hF hlt
                go_wp2_with fail
                refine (dataSize_any ao n cap so m sc X _ (by omega) h2).mono ?_
                rintro e w4 ⟨rfl, b4⟩
                go_wp2_with fail
                refine (dataSize_any (some ⟨w1.heap.size, 0, none⟩) (n + 1) (n + 1) none 0 0 (insF X i v) _ (by omega) (hgr.later b4)).mono ?_
                rintro e w5 ⟨rfl, b5⟩
                have t5 : Below wr.heap.size wr w5 := b4.trans (b5.mono b4.size)
                have h5 := h2.later t5
                go_wp2_with fail
                refine (dataSize_any ao i cap none 0 0 X _ (by omega) (h5.head hi)).mono ?_
                rintro e w6 ⟨rfl, b6⟩
                have h6 := h5.later b6
                go_upto_region 22 with fail
                go_cut [15] (fun s wq => s = .int .i64 (ds (fun j => X (i + j)) (n - i)) ∧ Below w6.heap.size w6 wq)
                case first =>
                  have h7 := h6.rest i
                  by_cases hci : cap = i
                  · subst hci
                    go_wp2_with fail
                    refine (dataSize_any ao 0 0 so m sc (fun j => X (cap + j)) _ (by omega) (fun h => absurd h (by omega))).mono ?_
                    rintro e w7 ⟨rfl, b7⟩
                    go_wp2
                    go_meet
                    case rel => rw [show n - cap = 0 by omega]; exact ⟨rfl, b7⟩
                  · go_wp2_with fail
                    refine (dataSize_any (Option.map (fun x => x.add i) ao) (n - i) (cap - i) so m sc (fun j => X (i + j)) _ (by omega) h7).mono ?_
                    rintro e w7 ⟨rfl, b7⟩
                    go_wp2
                    go_meet
                    case rel => exact ⟨rfl, b7⟩
                case rest =>
                  obtain ⟨rfl, b7⟩ := hcut
                  have hgo := HG.out
                  have hpo := HP.out
                  have tt : Below w1.heap.size w1 wc := ((hbel.trans (t5.mono hbel.size)).trans (b6.mono (Nat.le_trans hbel.size t5.size))).trans (b7.mono (Nat.le_trans hbel.size (Nat.le_trans t5.size b6.size)))
                  by_cases hv0 : 0 < v
                  · rw [show max v 0 = v by omega] at hgo
                    go_wp2
                    go_ret
                    exact ⟨rfl, tt⟩
                  · rw [show max v 0 = 0 by omega] at hgo
                    go_wp2
                    go_ret
                    exact ⟨rfl, tt⟩
      · go_wp2
        go_ret
        exact ⟨rfl, Below.refl _ _⟩
    · go_wp2
      go_ret
      exact ⟨rfl, Below.refl _ _⟩

set_option maxRecDepth 100000 in
set_option maxHeartbeats 2000000 in
theorem law_out (ao : Option Addr) (n cap : Nat) (so : Option Addr) (m sc : Nat) (i v : Int) (w : World) (hn : n ≤ maxLen) (hm : m ≤ maxLen) (hi : i < 0 ∨ (n : Int) < i) :
    Calls Try.prog 3 #[.slice ao n cap, .slice so m sc, .int .i64 i, .int .i64 v] w (True5 w) := by
  have HM : Hid (n ≤ maxLen ∧ m ≤ maxLen) := ⟨hn, hm⟩
  have HI : Hid (i < 0 ∨ (n : Int) < i) := hi
  clear hn hm hi
  go_enter Try.func3, Try.ntmps3
  go_wp2_with fail
  refine (bytes6 ao n cap so m sc i v _ HM.out.1 HM.out.2).mono ?_
  rintro e w1 ⟨r, rfl, rfl, hr⟩
  cases r with
  | false =>
    go_wp2
    go_ret
    exact ⟨rfl, Below.refl _ _⟩
  | true =>
    obtain ⟨hn, hm⟩ := hr rfl
    have hm' : (m : Int) ≤ 1048576 := by omega
    by_cases g1 : (n : Int) ≤ 131072
    · by_cases g2 : 8 * (n : Int) + (m : Int) ≤ 1048576
      · by_cases g3 : i < 0
        · go_wp2
          go_ret
          exact ⟨rfl, Below.refl _ _⟩
        · have g4 : (n : Int) < i := by have := HI.out; omega
          go_wp2
          go_ret
          exact ⟨rfl, Below.refl _ _⟩
      · go_wp2
        go_ret
        exact ⟨rfl, Below.refl _ _⟩
    · go_wp2
      go_ret
      exact ⟨rfl, Below.refl _ _⟩

theorem law (ao : Option Addr) (n cap : Nat) (X : Nat → Int) (so : Option Addr) (m sc : Nat) (i v : Int) (w : World) (hnc : n ≤ cap) (hcap : cap ≤ maxLen) (hm : m ≤ maxLen)
    (hv : -9223372036854775808 ≤ v ∧ v ≤ 9223372036854775807) (h : IntsIn w ao n X) :
    Calls Try.prog 3 #[.slice ao n cap, .slice so m sc, .int .i64 i, .int .i64 v] w (True5 w) := by
  by_cases hi : i < 0 ∨ (n : Int) < i
  · exact law_out ao n cap so m sc i v w (by omega) hm hi
  · obtain ⟨i', rfl⟩ := Int.eq_ofNat_of_zero_le (show 0 ≤ i by omega)
    exact law_in ao n cap X so m sc i' v w hnc hcap hm (by omega) hv h
end Go.Proofs.Qxb6617329a
