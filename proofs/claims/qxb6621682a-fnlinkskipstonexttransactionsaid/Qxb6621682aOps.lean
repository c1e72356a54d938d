import Derived.Test.Qxb6621682aGuards
import Derived.BigRegion
namespace Go.Proofs.Qxb6621682a
open Go.RowKit
theorem Try.info34 : (Try.prog.info? 34).map (fun i => (i.zero, i.size, i.bytes)) = some (some (.agg #[.int .u8 0, .int .i64 0, .string ByteArray.empty]), 3, 32) := by kernel_rfl

/-- make([]history.Op, n). -/
theorem make_ops (n : Nat) (hn : n ≤ 4096) (w : World) :
    (Instr.makeSlice 29 (.int .i64 (n : Int)) (.int .i64 (n : Int))).run Try.prog w = .ok (.slice (some ⟨w.heap.size, 0, none⟩) n n) (w.alloc (.cells (madeCells #[.int .u8 0, .int .i64 0, .string ByteArray.empty] (n * 3)) 34)) := by
  obtain ⟨i, hi, hz0, hz1, hz2⟩ := info_parts Try.info34
  have hr := run_make (P := Try.prog) w 29 34 i _ Try.underlying29 hi hz0 .i64 .i64 n n (by omega) (Int.le_refl _) (by rw [hz2]; omega) (by omega)
  simp only [Int.toNat_natCast, hz1] at hr
  exact hr

theorem made_row (w : World) (c : Array Value) (t : TypeId) : (w.alloc (.cells c t)).rowIs w.heap.size t c.size (fun i => c.getD i undef) :=
  World.rowIs_alloc w c t _ (fun i hi => by simp [Array.getD, hi])

/-- What is known of the list of operations that the law has made: of each its transaction. -/
def TxAt (w : World) (go : Option Addr) (n : Nat) (T : Nat → Int) : Prop :=
  0 < n → ∃ b off, go = some ⟨b, off, none⟩ ∧ b < w.heap.size ∧ ∀ i, i < n → w.cell? ⟨b, off + i * 3 + 1, none⟩ = some (.int .i64 (T i))

theorem TxAt.later {w w' : World} {go : Option Addr} {n : Nat} {T : Nat → Int} (h : TxAt w go n T) (hb : Below w.heap.size w w') : TxAt w' go n T := fun hn => by
  obtain ⟨b, off, e, hlt, hc⟩ := h hn
  exact ⟨b, off, e, Nat.lt_of_lt_of_le hlt hb.size, fun i hi => (hb.cell hlt).trans (hc i hi)⟩

def OpsMade (w : World) (n : Nat) (T : Nat → Int) (e : Ending) (w' : World) : Prop :=
  ∃ go, e = .returned (.slice go n n) ∧ Below w.heap.size w w' ∧ TxAt w' go n T

theorem ops_step {wr : World} {B n k : Nat} {F : Nat → Value} {T : Nat → Int} {u s : Value} (hrow : wr.rowIs B 34 (n * 3) F) (hall : ∀ i, i < k → F (i * 3 + 1) = .int .i64 (T i)) :
    ∃ F', (((wr.setCell ⟨B, k * 3, none⟩ u).setCell ⟨B, k * 3 + 1, none⟩ (.int .i64 (T k))).setCell ⟨B, k * 3 + 2, none⟩ s).drew.rowIs B 34 (n * 3) F' ∧ ∀ i, i < k + 1 → F' (i * 3 + 1) = .int .i64 (T i) := by
  refine ⟨_, (((hrow.set _ _).set _ _).set _ _).drew, fun i hi => ?_⟩
  by_cases e : i = k
  · subst e
    rw [if_neg (by omega), if_pos rfl]
  · rw [if_neg (by omega), if_neg (by omega), if_neg (by omega)]
    exact hall i (by omega)

set_option maxHeartbeats 1000000 in
theorem ops_some (a : Addr) (n cap : Nat) (K T : Nat → Int) (S : Nat → ByteArray) (w : World) (ho : OpsIn w (some a) n K T S) (hn : n ≤ 4096) :
    Calls Try.prog 11 #[.slice (some a) n cap] w (OpsMade w n T) := by
  have hmk := make_ops n hn
  have hnil := fun (w : World) (a : Option Addr) (n c n' c' : Nat) => Lib.run_eql_slice_nil (P := Try.prog) w 25 37 a n c n' c' Try.underlying25
  go_enter Try.func11, Try.ntmps11
  go_wp2
  go_loopw [4] (fun i wr => ∃ (k : Nat) (F : Nat → Value), k ≤ n ∧ i = .int .i64 k ∧ wr.rowIs w.heap.size 34 (n * 3) F ∧ Hid (∀ i, i < k → F (i * 3 + 1) = .int .i64 (T i)) ∧ Below w.heap.size w wr) (fun i _ => n - (intOf i).toNat)
  case atStart =>
    have h := made_row w (madeCells #[.int .u8 0, .int .i64 0, .string ByteArray.empty] (n * 3)) 34
    rw [size_madeCells] at h
    exact ⟨0, _, Nat.zero_le _, rfl, h, fun i hi => by omega, (Below.refl _ _).alloc (Nat.le_refl _) _⟩
  case round =>
    obtain ⟨k, F, hk, rfl, hrow, hall, hbel⟩ := hrel
    by_cases hlt : k < n
    · obtain ⟨b, off, h, hb, hc⟩ := ho (by omega)
      cases h
      obtain ⟨h1, h2, h3, hl⟩ := hc k hlt
      have g1 : wr.cell? ⟨b, off + k * 3, none⟩ = some (.int .u8 (K k)) := (hbel.cell hb).trans h1
      have g2 : wr.cell? ⟨b, off + k * 3 + 1, none⟩ = some (.int .i64 (T k)) := (hbel.cell hb).trans h2
      have g3 : wr.cell? ⟨b, off + k * 3 + 2, none⟩ = some (.string (S k)) := (hbel.cell hb).trans h3
      have c1 := hrow.cell (i := k * 3) (by omega)
      have c2 := hrow.cell (i := k * 3 + 1) (by omega)
      have c3 := hrow.cell (i := k * 3 + 2) (by omega)
      have f1 := hrow.frozen (k * 3)
      have f2 := hrow.frozen (k * 3 + 1)
      have f3 := hrow.frozen (k * 3 + 2)
      clear hc h1 h2 h3 ho
      go_wp2
      go_region
      go_wp2
      go_roundw
      case rel =>
        obtain ⟨F', hF, ht⟩ := ops_step (u := .int .u8 (K k)) (s := .string (S k)) hrow hall.out
        exact ⟨k + 1, F', by omega, by go_num, hF, ht, (((hbel.setCell (Nat.le_refl _) _).setCell (Nat.le_refl _) _).setCell (Nat.le_refl _) _).drew⟩
      case measure => simp [intOf]; omega
    · go_wp2
      go_ret
      refine ⟨_, rfl, hbel, fun h0 => ⟨w.heap.size, 0, rfl, hrow.lt, fun i hi => ?_⟩⟩
      rw [hrow.cell (by omega), ← hall.out i (by omega)]
      simp
theorem ops_nil (w : World) (T : Nat → Int) : Calls Try.prog 11 #[.slice none 0 0] w (OpsMade w 0 T) := by
  have hnil := fun (w : World) (a : Option Addr) (n c n' c' : Nat) => Lib.run_eql_slice_nil (P := Try.prog) w 25 37 a n c n' c' Try.underlying25
  go_enter Try.func11, Try.ntmps11
  go_wp2
  go_ret
  exact ⟨_, rfl, Below.refl _ _, fun h => absurd h (by omega)⟩
end Go.Proofs.Qxb6621682a
