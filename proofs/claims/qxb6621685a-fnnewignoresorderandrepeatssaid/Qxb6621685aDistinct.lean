import Derived.Test.Qxb6621685aRows
import Derived.Test.Qxb6621685aPlain
import Derived.WalkKit
import Derived.ProofKit
import Derived.WalkSpells
import Derived.WalkSmall
import Derived.Deep.QuietTactic
import Derived.BigQuiet
import Derived.Deep.OwnRows
import Derived.Deep.RegionWith
import Derived.Deep.DeepCutAuto
import Derived.Deep.CutBlock
namespace Go.Proofs.Qxb6621685a
open Go.RowKit

/-- What a walk is told of a list of strings. -/
def StrsIn (w : World) (ao : Option Addr) (n : Nat) (S : Nat → ByteArray) : Prop :=
  0 < n → ∃ b off, ao = some ⟨b, off, none⟩ ∧ b < w.heap.size ∧ ∀ i, i < n → w.cell? ⟨b, off + i, none⟩ = some (.string (S i))

theorem StrsIn.later {w w' : World} {ao : Option Addr} {n : Nat} {S : Nat → ByteArray} (h : StrsIn w ao n S) (hb : Below w.heap.size w w') : StrsIn w' ao n S := fun hn => by
  obtain ⟨b, off, e, hlt, hc⟩ := h hn
  exact ⟨b, off, e, Nat.lt_of_lt_of_le hlt hb.size, fun i hi => (hb.cell hlt).trans (hc i hi)⟩

theorem Try.info9 : (Try.prog.info? 9).map (fun i => (i.zero, i.size, i.bytes)) = some (some (.string ByteArray.empty), 1, 16) := by kernel_rfl

def strV (f : Nat → ByteArray) (i : Nat) : Value := .string (f i)

theorem rowIs_drewN {w : World} {b : Nat} {t : TypeId} {n : Nat} {f : Nat → Value} (h : w.rowIs b t n f) (m : Nat) : (w.drewN m).rowIs b t n f := h
theorem row_later {w w' : World} {g : Nat} {t : TypeId} {n : Nat} {f : Nat → Value} (h : w.rowIs g t n f) (hb : Below w.heap.size w w') : w'.rowIs g t n f := h.of_block (hb.block g h.lt)
theorem row_put {w : World} {b n k : Nat} {f : Nat → ByteArray} {v : ByteArray} (h : w.rowIs b 9 n (strV f)) : (w.setCell ⟨b, k, none⟩ (.string v)).rowIs b 9 n (strV (put f k v)) :=
  (h.set k _).congr fun i _ => by unfold strV put; split <;> rfl

/-- The two rows of the sort. -/
structure Two (B : Nat) (w : World) (pa pb n : Nat) (f g : Nat → ByteArray) (wr : World) : Prop where
  ne : pa ≠ pb
  ha : B ≤ pa
  hb : B ≤ pb
  rowA : wr.rowIs pa 9 n (strV f)
  rowB : wr.rowIs pb 9 n (strV g)
  bel : Below B w wr

theorem Two.store {B : Nat} {w : World} {pa pb n k : Nat} {f g : Nat → ByteArray} {wr : World} (h : Two B w pa pb n f g wr) (v : ByteArray) : Two B w pa pb n f (put g k v) (wr.setCell ⟨pb, k, none⟩ (.string v)) :=
  ⟨h.ne, h.ha, h.hb, h.rowA.setOther h.ne _, row_put h.rowB, h.bel.setCell h.hb _⟩
theorem Two.drewN {B : Nat} {w : World} {pa pb n : Nat} {f g : Nat → ByteArray} {wr : World} (h : Two B w pa pb n f g wr) (m : Nat) : Two B w pa pb n f g (wr.drewN m) :=
  ⟨h.ne, h.ha, h.hb, h.rowA, h.rowB, below_drewN h.bel m⟩
theorem Two.swap {B : Nat} {w : World} {pa pb n : Nat} {f g : Nat → ByteArray} {wr : World} (h : Two B w pa pb n f g wr) : Two B w pb pa n g f wr :=
  ⟨h.ne.symm, h.hb, h.ha, h.rowB, h.rowA, h.bel⟩

theorem hide {p : Prop} (h : p) : Hid p := h
theorem unhide {p : Prop} (h : Hid p) : p := h

theorem lef_of_less {f : Nat → ByteArray} {x y : Nat} (h : Op.bytesLess (f x).toList (f y).toList = true) : lef f x y := by
  rw [ByteArray.toList_eq, ByteArray.toList_eq] at h; exact le_of_less h
theorem lef_of_not {f : Nat → ByteArray} {x y : Nat} (h : Op.bytesLess (f x).toList (f y).toList = false) : lef f y x := by
  rw [ByteArray.toList_eq, ByteArray.toList_eq] at h; exact h
theorem lef_trans {f : Nat → ByteArray} {x y z : Nat} (h : lef f x y) (k : lef f y z) : lef f x z := le_trans h k

/-- The merge, and that b is as it was ahead of lo. -/
def Mer (f g g' : Nat → ByteArray) (lo mid hi i j k : Nat) : Prop := Merge f g' lo mid hi i j k ∧ ∀ x, x < lo → g' x = g x
theorem Mer.start {f g : Nat → ByteArray} {lo mid hi : Nat} (h1 : lo ≤ mid) (h2 : mid ≤ hi) : Mer f g g lo mid hi lo mid lo := ⟨Merge.start h1 h2, fun _ _ => rfl⟩
theorem Mer.bd {f g g' : Nat → ByteArray} {lo mid hi i j k : Nat} (h : Mer f g g' lo mid hi i j k) : lo ≤ i ∧ i ≤ mid ∧ mid ≤ j ∧ j ≤ hi ∧ k + mid = i + j := ⟨h.1.h1, h.1.h2, h.1.h3, h.1.h4, h.1.hk⟩
theorem Mer.takeLeft {f g g' : Nat → ByteArray} {lo mid hi i j k : Nat} (m : Mer f g g' lo mid hi i j k) (hs : Sorted f lo mid) (hi' : i < mid) (hc : ∀ y, j ≤ y → y < hi → lef f i y) : Mer f g (put g' k (f i)) lo mid hi (i + 1) j (k + 1) := by
  have := m.bd
  exact ⟨m.1.takeLeft hs hi' hc, fun x hx => by rw [put_off (by omega)]; exact m.2 x hx⟩
theorem Mer.takeRight {f g g' : Nat → ByteArray} {lo mid hi i j k : Nat} (m : Mer f g g' lo mid hi i j k) (hs : Sorted f mid hi) (hj : j < hi) (hc : ∀ y, i ≤ y → y < mid → lef f j y) : Mer f g (put g' k (f j)) lo mid hi i (j + 1) (k + 1) := by
  have := m.bd
  exact ⟨m.1.takeRight hs hj hc, fun x hx => by rw [put_off (by omega)]; exact m.2 x hx⟩

def DistinctOf (w : World) (S : Nat → ByteArray) (n : Nat) (e : Ending) (w' : World) : Prop := e = .returned (.int .i64 (nd (upTo S n))) ∧ Below w.heap.size w w'

set_option maxRecDepth 100000 in
set_option maxHeartbeats 2000000 in
theorem distinct_pos (b off n cap : Nat) (S : Nat → ByteArray) (w : World) (hn0 : 0 < n) (hn : n ≤ 200000) (hb : b < w.heap.size) (hc : ∀ i, i < n → w.cell? ⟨b, off + i, none⟩ = some (.string (S i))) :
    Calls Try.prog 11 #[.slice (some ⟨b, off, none⟩) n cap] w (DistinctOf w S n) := by
  have hmk := run_make_row' (P := Try.prog) 22 9 (.string ByteArray.empty) 16 Try.underlying22 Try.info9 rfl .i64 .i64 n (by omega) (by omega)
  have hz : ((n : Int) == 0) = false := beq_eq_false_iff_ne.2 (by omega)
  have HC : Hid (∀ i, i < n → w.cell? ⟨b, off + i, none⟩ = some (.string (S i))) := hc
  clear hc
  go_enter Try.func11, Try.ntmps11
  go_wp2
  go_loopw [5] (fun j wr => ∃ (k : Nat) (F : Nat → ByteArray), k ≤ n ∧ j = .int .i64 k ∧ wr.rowIs w.heap.size 9 n (strV F) ∧ Hid (∀ i, i < k → F i = S i) ∧ Below w.heap.size w wr) (fun j _ => n - (intOf j).toNat)
  case atStart => exact ⟨0, fun _ => ByteArray.empty, Nat.zero_le _, rfl, World.rowIs_made w _ n 9, fun i hi => by omega, (Below.refl _ _).alloc (Nat.le_refl _) _⟩
  case round =>
    obtain ⟨k, F, hk, rfl, hrow, hF, hbel⟩ := hrel
    by_cases hlt : k < n
    · have c0 : wr.cell? ⟨b, off + k, none⟩ = some (.string (S k)) := (hbel.cell hb).trans (HC.out k hlt)
      have d0 : wr.cell? ⟨w.heap.size, k, none⟩ = some (.string (F k)) := hrow.cell hlt
      have f0 := hrow.frozen k
      go_wp2
      go_roundw
      case rel =>
        refine ⟨k + 1, put F k (S k), by omega, by go_num, row_put hrow, fun i hi => ?_, hbel.setCell (Nat.le_refl _) _⟩
        by_cases e : i = k
        · subst e; exact put_at _ _ _
        · rw [put_off e]; exact hF.out i (by omega)
      case measure => simp [intOf]; omega
    · have hkn : n = k := by omega
      subst hkn
      have hrowS : wr.rowIs w.heap.size 9 n (strV S) := hrow.congr fun i hi => by unfold strV; rw [hF.out i hi]
      have hlt1 := hrow.lt
      clear hrow hF hlt hk
      go_wp2
      go_loopw [4, 6, 7] (fun sa sb sw wq => ∃ (pa pb wd : Nat) (f g : Nat → ByteArray), sa = .slice (some ⟨pa, 0, none⟩) n n ∧ sb = .slice (some ⟨pb, 0, none⟩) n n ∧ sw = .int .i64 wd ∧ 1 ≤ wd ∧ wd ≤ 2 * n ∧ Two w.heap.size w pa pb n f g wq ∧ Hid (Same f S n ∧ Blocks f n wd)) (fun _ _ sw _ => n - (intOf sw).toNat)
      case atStart =>
        refine ⟨w.heap.size, wr.heap.size, 1, S, fun _ => ByteArray.empty, rfl, rfl, rfl, by omega, by omega, ⟨by omega, Nat.le_refl _, by omega, hrowS.alloc _, World.rowIs_made wr _ n 9, hbel.alloc (by omega) _⟩, Same.refl _ _, Blocks.one _ _⟩
      case round =>
        obtain ⟨pa, pb, wd, f, g, rfl, rfl, rfl, hw1, hw2, htwo, hst⟩ := hrel
        by_cases hwn : wd < n
        · go_wp2
          go_loopw [8] (fun sl wq => ∃ (lo : Nat) (g : Nat → ByteArray), sl = .int .i64 lo ∧ lo ≤ n + 2 * wd ∧ Two w.heap.size w pa pb n f g wq ∧ Hid (Pass f g n wd lo)) (fun sl _ => n - (intOf sl).toNat)
          case atStart => exact ⟨0, g, rfl, by omega, htwo, Pass.start _ _ _ _⟩
          case round =>
            clear htwo
            obtain ⟨lo, g, rfl, hlo, htwo, hpass⟩ := hrel
            by_cases hln : lo < n
            · obtain ⟨mid, HMID⟩ : ∃ mid, Hid (mid = min (lo + wd) n) := ⟨_, rfl⟩
              obtain ⟨hi, HHI⟩ : ∃ hi, Hid (hi = min (lo + 2 * wd) n) := ⟨_, rfl⟩
              have hm1 : lo < mid := by have := HMID.out; omega
              have hm2 : mid ≤ hi := by have := HMID.out; have := HHI.out; omega
              have hm3 : hi ≤ n := by have := HHI.out; omega
              have hsrt : Hid (Sorted f lo mid ∧ Sorted f mid hi) := by
                have := hpass.out.halves hst.out.2
                rw [← HMID.out, ← HHI.out] at this
                exact this
              go_upto_if 53 with fail
              go_cut [9] (fun s wq => s = .int .i64 mid ∧ wq = wr)
              case first =>
                by_cases h1 : (n : Int) < (lo : Int) + (wd : Int)
                · have e1 : mid = n := by have := HMID.out; omega
                  go_wp2
                  go_meet
                  case rel => exact ⟨by rw [e1], rfl⟩
                · have e1 : (mid : Int) = (lo : Int) + (wd : Int) := by have := HMID.out; omega
                  have E1 := hide e1
                  clear e1
                  go_wp2
                  go_meet
                  case rel => exact ⟨by rw [unhide E1], rfl⟩
              case rest =>
                obtain ⟨rfl, rfl⟩ := hcut
                go_upto_if 61 with fail
                go_cut [10] (fun s wq => s = .int .i64 hi ∧ wq = wc)
                case first =>
                  by_cases h1 : (n : Int) < (lo : Int) + 2 * (wd : Int)
                  · have e1 : hi = n := by have := HHI.out; omega
                    have E1 := hide e1
                    clear e1
                    go_wp2
                    go_meet
                    case rel => exact ⟨by rw [unhide E1], rfl⟩
                  · have e1 : (hi : Int) = (lo : Int) + 2 * (wd : Int) := by have := HHI.out; omega
                    have E1 := hide e1
                    clear e1
                    go_wp2
                    go_meet
                    case rel => exact ⟨by rw [unhide E1], rfl⟩
                case rest =>
                  obtain ⟨rfl, rfl⟩ := hcut
                  go_upto_block 6 with fail
                  go_cut [11, 12, 13] (fun si sj sk wq => ∃ (i j k : Nat) (g' : Nat → ByteArray), si = .int .i64 i ∧ sj = .int .i64 j ∧ sk = .int .i64 k ∧ Two w.heap.size w pa pb n f g' wq ∧ Hid (Mer f g g' lo mid hi i j k) ∧ Hid (i = mid ∨ j = hi))
                  case first =>
                    go_wp2
                    go_loopw [11, 12, 13] (fun si sj sk wq => ∃ (i j k : Nat) (g' : Nat → ByteArray), si = .int .i64 i ∧ sj = .int .i64 j ∧ sk = .int .i64 k ∧ Two w.heap.size w pa pb n f g' wq ∧ Hid (Mer f g g' lo mid hi i j k)) (fun si sj _ _ => (mid - (intOf si).toNat) + (hi - (intOf sj).toNat))
                    case atStart => exact ⟨lo, mid, lo, g, rfl, rfl, rfl, htwo, Mer.start (by omega) hm2⟩
                    case round =>
                      clear htwo
                      obtain ⟨i, j, k, g', rfl, rfl, rfl, htwo, hmer⟩ := hrel
                      obtain ⟨b1, b2, b3, b4, b5⟩ := hmer.out.bd
                      have B5 := hide b5
                      have b6 : k + mid ≤ i + j := by omega
                      have b7 : i + j ≤ k + mid := by omega
                      clear b5
                      by_cases c1 : i < mid
                      · by_cases c2 : j < hi
                        · have ci : wr.cell? ⟨pa, i, none⟩ = some (.string (f i)) := htwo.rowA.cell (by omega)
                          have cj : wr.cell? ⟨pa, j, none⟩ = some (.string (f j)) := htwo.rowA.cell (by omega)
                          have ck : wr.cell? ⟨pb, k, none⟩ = some (.string (g' k)) := htwo.rowB.cell (by omega)
                          have fk := htwo.rowB.frozen k
                          have hkn : k < n := by omega
                          cases hl : Op.bytesLess (f j).toList (f i).toList with
                          | true =>
                            go_wp2
                            go_quiet (fail)
                            go_wp2
                            go_roundw
                            case rel => exact ⟨i, j + 1, k + 1, put g' k (f j), rfl, by go_num, by go_num, (htwo.drewN _).store _, hmer.out.takeRight hsrt.out.2 c2 fun y p q => lef_trans (lef_of_less hl) (hsrt.out.1 i y (by omega) p q)⟩
                            case measure => simp [intOf]; omega
                          | false =>
                            go_wp2
                            go_quiet (fail)
                            go_wp2
                            go_roundw
                            case rel => exact ⟨i + 1, j, k + 1, put g' k (f i), by go_num, rfl, by go_num, (htwo.drewN _).store _, hmer.out.takeLeft hsrt.out.1 c1 fun y p q => lef_trans (lef_of_not hl) (hsrt.out.2 j y (by omega) p q)⟩
                            case measure => simp [intOf]; omega
                        · go_wp2
                          go_meet
                          case rel => exact ⟨i, j, k, g', rfl, rfl, rfl, htwo, hmer, .inr (by omega)⟩
                      · go_wp2
                        go_meet
                        case rel => exact ⟨i, j, k, g', rfl, rfl, rfl, htwo, hmer, .inl (by omega)⟩
                  case rest =>
                    clear htwo
                    obtain ⟨i, j, k, g', rfl, rfl, rfl, htwo, hmer, hor⟩ := hcut
                    go_wp2
                    go_loopw [11, 13] (fun si sk wq => ∃ (i k : Nat) (g' : Nat → ByteArray), si = .int .i64 i ∧ sk = .int .i64 k ∧ Two w.heap.size w pa pb n f g' wq ∧ Hid (Mer f g g' lo mid hi i j k) ∧ Hid (i = mid ∨ j = hi)) (fun si _ _ => mid - (intOf si).toNat)
                    case atStart => exact ⟨i, k, g', rfl, rfl, htwo, hmer, hor⟩
                    case round =>
                      clear htwo hmer hor
                      obtain ⟨i, k, g', rfl, rfl, htwo, hmer, hor⟩ := hrel
                      obtain ⟨b1, b2, b3, b4, b5⟩ := hmer.out.bd
                      have b6 : k + mid ≤ i + j := by omega
                      have b7 : i + j ≤ k + mid := by omega
                      clear b5
                      by_cases c1 : i < mid
                      · have ci : wr.cell? ⟨pa, i, none⟩ = some (.string (f i)) := htwo.rowA.cell (by omega)
                        have ck : wr.cell? ⟨pb, k, none⟩ = some (.string (g' k)) := htwo.rowB.cell (by omega)
                        have fk := htwo.rowB.frozen k
                        have hkn : k < n := by omega
                        have hj : Hid (j = hi) := by rcases hor.out with h | h; omega; exact h
                        go_wp2
                        go_roundw
                        case rel => exact ⟨i + 1, k + 1, put g' k (f i), by go_num, by go_num, htwo.store _, hmer.out.takeLeft hsrt.out.1 c1 (fun y p q => absurd q (by have := hj.out; omega)), .inr hj.out⟩
                        case measure => simp [intOf]; omega
                      · have hie : Hid (i = mid) := by show i = mid; omega
                        go_wp2
                        go_loopw [12, 13] (fun sj sk wq => ∃ (j k : Nat) (g' : Nat → ByteArray), sj = .int .i64 j ∧ sk = .int .i64 k ∧ Two w.heap.size w pa pb n f g' wq ∧ Hid (Mer f g g' lo mid hi i j k)) (fun sj _ _ => hi - (intOf sj).toNat)
                        case atStart => exact ⟨j, k, g', rfl, rfl, htwo, hmer⟩
                        case round =>
                          clear htwo hmer hor b3 b4 b6 b7
                          obtain ⟨j, k, g', rfl, rfl, htwo, hmer⟩ := hrel
                          obtain ⟨_, _, b3, b4, b5⟩ := hmer.out.bd
                          have b6 : k + mid ≤ i + j := by omega
                          have b7 : i + j ≤ k + mid := by omega
                          clear b5
                          by_cases c2 : j < hi
                          · have cj : wr.cell? ⟨pa, j, none⟩ = some (.string (f j)) := htwo.rowA.cell (by omega)
                            have ck : wr.cell? ⟨pb, k, none⟩ = some (.string (g' k)) := htwo.rowB.cell (by omega)
                            have fk := htwo.rowB.frozen k
                            have hkn : k < n := by omega
                            go_wp2
                            go_roundw
                            case rel => exact ⟨j + 1, k + 1, put g' k (f j), by go_num, by go_num, htwo.store _, hmer.out.takeRight hsrt.out.2 c2 fun y p q => absurd q (by have := hie.out; omega)⟩
                            case measure => simp [intOf]; omega
                          · have hfin : Hid (Pass f g' n wd (lo + 2 * wd)) := by
                              obtain ⟨m1, m2⟩ := hmer.out
                              have e1 := hie.out
                              have e2 : j = hi := by omega
                              have e3 : k = hi := by omega
                              rw [e1, e2, e3, HMID.out, HHI.out] at m1
                              exact hpass.out.step m2 m1
                            go_wp2
                            go_roundw
                            case rel => exact ⟨lo + 2 * wd, g', by go_num, by omega, htwo, hfin⟩
                            case measure => simp [intOf]; omega
            · have hfin : Hid (Same g f n ∧ Blocks g n (2 * wd)) := hpass.out.done (by omega)
              go_wp2
              go_roundw
              case rel => exact ⟨pb, pa, 2 * wd, g, f, rfl, rfl, by go_num, by omega, by omega, htwo.swap, hfin.out.1.trans hst.out.1, hfin.out.2⟩
              case measure => simp [intOf]; omega
        · have hsorted : Hid (Sorted f 0 n) := hst.out.2.whole (by omega)
          go_wp2
          go_loopw [14, 15] (fun sc sj wq => ∃ m : Nat, m < n ∧ sj = .int .i64 ((m : Int) + 1) ∧ sc = .int .i64 (runs f (m + 1)) ∧ runs f (m + 1) ≤ m + 1 ∧ Two w.heap.size w pa pb n f g wq) (fun _ sj _ => n - (intOf sj).toNat)
          case atStart => exact ⟨0, hn0, rfl, rfl, Nat.le_refl _, htwo⟩
          case round =>
            clear htwo
            obtain ⟨m, hm, rfl, rfl, hle, htwo⟩ := hrel
            by_cases hmn : m + 1 < n
            · have c1 : wr.cell? ⟨pa, m, none⟩ = some (.string (f m)) := htwo.rowA.cell (by omega)
              have c2 : wr.cell? ⟨pa, m + 1, none⟩ = some (.string (f (m + 1))) := htwo.rowA.cell (by omega)
              have hmi : (m : Int) + 1 < (n : Int) := by omega
              by_cases he : (f (m + 1)).data.toList = (f m).data.toList
              · have HR : Hid (runs f (m + 1 + 1) = runs f (m + 1)) := if_pos he
                have hbq : (f (m + 1)).toList = (f m).toList := by rw [ByteArray.toList_eq, ByteArray.toList_eq]; exact he
                have hbb : ((f (m + 1)).toList == (f m).toList) = true := by rw [hbq]; simp
                clear hbq he
                go_wp2
                go_quiet (fail)
                go_wp2
                go_roundw
                case rel => exact ⟨m + 1, hmn, by go_num, by rw [HR.out], by rw [HR.out]; omega, htwo.drewN _⟩
                case measure => simp [intOf]; omega
              · have HR : Hid (runs f (m + 1 + 1) = runs f (m + 1) + 1) := if_neg he
                have hbb : ((f (m + 1)).toList == (f m).toList) = false := by rw [ByteArray.toList_eq, ByteArray.toList_eq]; simpa using he
                clear he
                go_wp2
                go_quiet (fail)
                go_wp2
                go_roundw
                case rel => exact ⟨m + 1, hmn, by go_num, by rw [HR.out]; go_num, by rw [HR.out]; omega, htwo.drewN _⟩
                case measure => simp [intOf]; omega
            · have hmn' : n = m + 1 := by omega
              have hres : Hid (runs f (m + 1) = nd (upTo S n)) := by
                rw [← hmn']
                exact (runs_nd n hsorted.out).trans hst.out.1.nd_eq
              go_wp2
              go_ret
              exact ⟨by rw [← hres.out]; rfl, htwo.bel⟩

theorem distinct_zero (ao : Option Addr) (cap : Nat) (S : Nat → ByteArray) (w : World) : Calls Try.prog 11 #[.slice ao 0 cap] w (DistinctOf w S 0) := by
  go_enter Try.func11, Try.ntmps11
  go_wp2
  go_ret
  exact ⟨rfl, Below.refl _ _⟩

theorem distinct_any (ao : Option Addr) (n cap : Nat) (S : Nat → ByteArray) (w : World) (hn : n ≤ 200000) (h : StrsIn w ao n S) : Calls Try.prog 11 #[.slice ao n cap] w (DistinctOf w S n) := by
  by_cases h0 : n = 0
  · subst h0; exact distinct_zero ao cap S w
  · obtain ⟨b, off, rfl, hb, hc⟩ := h (by omega)
    exact distinct_pos b off n cap S w (by omega) hn hb hc
end Go.Proofs.Qxb6621685a
