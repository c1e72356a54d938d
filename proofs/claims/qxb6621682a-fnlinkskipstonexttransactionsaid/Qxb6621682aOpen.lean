import Derived.Test.Qxb6621682aShared
import Derived.WalkKit
import Derived.ProofKit
import Derived.ChangeOld
import Derived.Below
import Derived.Deep.Slices
import Derived.Deep.Strs
namespace Go.Proofs.Qxb6621682a
open Go.ChangeShapes Go.WideShapes Go.ChangeAt Go.RowKit Go.Deep
open Go.ChangeMaps (open_string shut_string)

theorem lt_of_cell {w : World} {a : Addr} {v : Value} (h : w.cell? a = some v) : a.block < w.heap.size := by
  by_cases hn : a.block < w.heap.size
  · exact hn
  · have h0 : w.heap[a.block]? = none := Array.getElem?_eq_none (by omega)
    simp [World.cell?, h0] at h

theorem Try.cells37 : Try.prog.cellsOf 37 = 3 := by kernel_rfl
theorem Try.cells5 : Try.prog.cellsOf 5 = 1 := by kernel_rfl
theorem Try.cells3 : Try.prog.cellsOf 3 = 1 := by kernel_rfl
theorem Try.cells9 : Try.prog.cellsOf 9 = 1 := by kernel_rfl
theorem own : ownKnob Try.prog.godebug = none := by kernel_rfl
theorem laidOut : laidOutB Try.prog = true := by kernel_rfl

section
variable {H : Type} {enc : TypeId × Value → H} {W : World} {base : Nat} {spare : Nat → Bool} {held : Bool}

/-- One operation's three cells. -/
theorem op_cells {n : Nat} {cs : List Value} {x : DataW H × List MemPlace} (h : DataW.trod enc Try.prog W base spare held n 37 cs = some x) :
    ∃ (k t : Int) (s : ByteArray), cs = [.int .u8 k, .int .i64 t, .string s] ∧ s.size ≤ maxLen := by
  obtain ⟨y0, y1, y2, m, _, hl, h0, h1, h2⟩ := trod_struct3 Try.underlying37 h
  simp only [Try.cells5, Try.cells3, Try.cells9] at h0 h1 h2
  rw [Try.cells37] at hl
  match cs, hl with
  | [c0, c1, c2], _ =>
    obtain ⟨k, e0, _, _⟩ := DataW.trod_int Try.underlying5 h0
    obtain ⟨t, e1, _, _⟩ := DataW.trod_int Try.underlying3 h1
    obtain ⟨s, e2, _, hs⟩ := DataW.trod_string Try.underlying9 h2
    simp at e0 e1 e2
    subst e0 e1 e2
    exact ⟨k, t, s, rfl, hs⟩

theorem ops_open {fuel : Nat} {a : Option Addr} {len cap : Nat} {x : DataW H × List MemPlace} (h : DataW.trod enc Try.prog W base spare held fuel 25 [.slice a len cap] = some x) :
    (a = none → len = 0 ∧ cap = 0) ∧ len ≤ maxLen ∧ ∃ K T S, OpsIn W a len K T S := by
  rcases open_slice Try.underlying25 h with ⟨hcs, _⟩ | ⟨ad, l, c, m, n, D, Pl, hcs, _, hl, hm, hmm, _, hx⟩
  · simp at hcs
    obtain ⟨rfl, rfl, rfl⟩ := hcs
    exact ⟨fun _ => ⟨rfl, rfl⟩, Nat.zero_le _, fun _ => 0, fun _ => 0, fun _ => ByteArray.empty, fun h0 => absurd h0 (by omega)⟩
  · simp at hcs
    obtain ⟨rfl, rfl, rfl⟩ := hcs
    refine ⟨(fun e => by cases e), Nat.le_trans hl hm, ?_⟩
    have hlm : len ≤ m := by rw [hmm]; split <;> omega
    obtain ⟨f, hf⟩ := choose_lt (α := Int × Int × ByteArray) (n := len) (p := fun i f => W.cell? (ad.add (i * 3)) = some (.int .u8 f.1) ∧ W.cell? (ad.add (i * 3 + 1)) = some (.int .i64 f.2.1) ∧ W.cell? (ad.add (i * 3 + 2)) = some (.string f.2.2) ∧ f.2.2.size ≤ maxLen) (fun i hi => by
      obtain ⟨cs, hc, ht⟩ := hx i (by omega)
      obtain ⟨k, t, s, rfl, hs⟩ := op_cells ht
      rw [Try.cells37] at hc
      obtain ⟨_, _, hc⟩ := World.cells?_some hc
      have e0 := hc 0 (by omega)
      have e1 := hc 1 (by omega)
      have e2 := hc 2 (by omega)
      rw [add_add] at e0 e1 e2
      exact ⟨(k, t, s), by simpa using e0, by simpa using e1, by simpa using e2, hs⟩)
    refine ⟨fun i => (f i).1, fun i => (f i).2.1, fun i => (f i).2.2, fun h0 => ?_⟩
    obtain ⟨b, off, spot⟩ := ad
    have hspot : spot = none := by simpa [Addr.add] using World.cell?_spot (hf 0 h0).1
    subst hspot
    refine ⟨b, off, rfl, by simpa [Addr.add] using lt_of_cell (hf 0 h0).1, fun i hi => ?_⟩
    have := hf i hi
    simp only [add_plain] at this
    exact ⟨this.1, this.2.1, this.2.2.1, this.2.2.2⟩

theorem ints_open {fuel : Nat} {a : Option Addr} {len cap : Nat} {x : DataW H × List MemPlace} (h : DataW.trod enc Try.prog W base spare held fuel 26 [.slice a len cap] = some x) :
    len ≤ maxLen ∧ ∃ X, IntsIn W a len X := by
  rcases open_slice1 Try.underlying26 Try.cells3 h with ⟨hcs, _⟩ | ⟨ad, l, c, m, n, V, D, Pl, hcs, _, hl, hm, hmm, _, hx⟩
  · simp at hcs
    obtain ⟨rfl, rfl, rfl⟩ := hcs
    exact ⟨Nat.zero_le _, fun _ => 0, fun h0 => absurd h0 (by omega)⟩
  · simp at hcs
    obtain ⟨rfl, rfl, rfl⟩ := hcs
    refine ⟨Nat.le_trans hl hm, ?_⟩
    have hlm : len ≤ m := by rw [hmm]; split <;> omega
    obtain ⟨X, hX⟩ := choose_lt (α := Int) (n := len) (p := fun i z => W.cell? (ad.add i) = some (.int .i64 z)) (fun i hi => by
      obtain ⟨hc, ht⟩ := hx i (by omega)
      obtain ⟨z, e, _, _⟩ := DataW.trod_int Try.underlying3 ht
      simp at e
      exact ⟨z, by rw [hc, e]⟩)
    refine ⟨X, fun h0 => ?_⟩
    obtain ⟨b, off, spot⟩ := ad
    have hspot : spot = none := by simpa [Addr.add] using World.cell?_spot (hX 0 h0)
    subst hspot
    refine ⟨b, off, rfl, by simpa [Addr.add] using lt_of_cell (hX 0 h0), fun i hi => ?_⟩
    have := hX i hi
    rwa [add_plain] at this
end
end Go.Proofs.Qxb6621682a
