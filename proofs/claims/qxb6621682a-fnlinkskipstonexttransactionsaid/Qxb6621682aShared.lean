import Derived.Test.Qxb6621682aLink
import Derived.Laws.CopyOwn
namespace Go.Proofs.Qxb6621682a
open Go.RowKit

/-- What a walk is told of the list of numbers that came in. -/
def IntsIn (w : World) (xo : Option Addr) (m : Nat) (X : Nat → Int) : Prop :=
  0 < m → ∃ b off, xo = some ⟨b, off, none⟩ ∧ b < w.heap.size ∧ ∀ i, i < m → w.cell? ⟨b, off + i, none⟩ = some (.int .i64 (X i))

theorem OpsIn.later {w w' : World} {ao : Option Addr} {n : Nat} {K T : Nat → Int} {S : Nat → ByteArray} (h : OpsIn w ao n K T S) (hb : Below w.heap.size w w') : OpsIn w' ao n K T S := fun hn => by
  obtain ⟨b, off, e, hlt, hc⟩ := h hn
  refine ⟨b, off, e, Nat.lt_of_lt_of_le hlt hb.size, fun i hi => ?_⟩
  rw [hb.cell (p := ⟨b, off + i * 3, none⟩) hlt, hb.cell (p := ⟨b, off + i * 3 + 1, none⟩) hlt, hb.cell (p := ⟨b, off + i * 3 + 2, none⟩) hlt]
  exact hc i hi

theorem ops_any (ao : Option Addr) (n cap : Nat) (K T : Nat → Int) (S : Nat → ByteArray) (w : World) (hz : ao = none → n = 0 ∧ cap = 0) (ho : OpsIn w ao n K T S) (hn : n ≤ 4096) :
    Calls Try.prog 11 #[.slice ao n cap] w (OpsMade w n T) := by
  cases ao with
  | none => obtain ⟨rfl, rfl⟩ := hz rfl; exact ops_nil w T
  | some a => exact ops_some a n cap K T S w ho hn

/-- The copy of 'next': the law at the built-in call. -/
theorem sz3 : (Try.prog.info? 3).map (·.size) = some 1 := by kernel_rfl

def True5 (w : World) (e : Ending) (w' : World) : Prop := e = .returned (.bool true) ∧ Below w.heap.size w w'

def nums (X : Nat → Int) (m : Nat) : List Value := (List.range m).map fun i => .int .i64 (X i)
theorem copy_below (w : World) (m : Nat) : Below w.heap.size w (w.alloc (.cells (madeCells #[.int .i64 0] m) 3)) := (Below.refl _ _).alloc (Nat.le_refl _) _
theorem copy_one (X : Nat → Int) (m : Nat) : ∀ v ∈ nums X m, v.oneCell' = true := by
  intro v hv
  simp [nums] at hv
  obtain ⟨i, _, rfl⟩ := hv
  rfl
theorem copy_next {w : World} {X : Nat → Int} (xa : Addr) (m c : Nat) (hx : IntsIn w (some xa) m X) :
    ∃ w2, (Builtin.copy_ #[26, 26] 3 #[.slice (some ⟨w.heap.size, 0, none⟩) m m, .slice (some xa) m c]).run Try.prog (w.alloc (.cells (madeCells #[.int .i64 0] m) 3)) = .ok (goInt m) w2 ∧ Below w.heap.size w w2 := by
  by_cases h0 : m = 0
  · subst h0
    exact ⟨_, run_copy_none (P := Try.prog) _ 26 26 3 3 _ _ 0 0 0 c Try.underlying26 sz3 rfl, copy_below w 0⟩
  · obtain ⟨b, off, e, hlt, hc⟩ := hx (by omega)
    cases e
    have hl : (nums X m).length = m := by simp [nums]
    have hr := run_copy_row (P := Try.prog) (w.alloc (.cells (madeCells #[.int .i64 0] m) 3)) 26 26 3 3 w.heap.size 0 m m ⟨b, off, none⟩ m c (madeCells #[.int .i64 0] m) 3 (nums X m) Try.underlying26 sz3
      (heap_alloc_new _ _) (by rw [hl]; simp) (fun j v hj => by
        unfold nums at hj
        rw [List.getElem?_map] at hj
        by_cases hjm : j < m
        · rw [List.getElem?_range hjm] at hj
          simp at hj
          rw [WideShapes.add_plain, ← hj, ← hc j hjm]
          exact (copy_below w m).cell hlt
        · rw [List.getElem?_eq_none (by simpa using hjm)] at hj
          simp at hj) (by rw [hl, size_madeCells]; omega) (copy_one X m)
    rw [hl] at hr
    exact ⟨_, hr, below_setRow (copy_below w m) (Nat.le_refl _) _⟩

end Go.Proofs.Qxb6621682a
