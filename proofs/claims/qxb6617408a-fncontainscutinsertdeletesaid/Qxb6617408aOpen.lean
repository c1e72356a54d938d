import Derived.Test.Qxb6617408aParts
import Derived.WalkKit
import Derived.ProofKit
import Derived.ChangeOld
import Derived.Below
import Derived.Deep.Slices
import Derived.Deep.Strs
namespace Go.Proofs.Qxb6617408a
open Go.ChangeShapes Go.WideShapes Go.ChangeAt Go.RowKit Go.Deep

theorem lt_of_cell {w : World} {a : Addr} {v : Value} (h : w.cell? a = some v) : a.block < w.heap.size := by
  by_cases hn : a.block < w.heap.size
  · exact hn
  · have h0 : w.heap[a.block]? = none := Array.getElem?_eq_none (by omega)
    simp [World.cell?, h0] at h

theorem Try.cells9 : Try.prog.cellsOf 9 = 1 := by kernel_rfl
theorem own : ownKnob Try.prog.godebug = none := by kernel_rfl
theorem laidOut : laidOutB Try.prog = true := by kernel_rfl

section
variable {H : Type} {enc : TypeId × Value → H} {W : World} {base : Nat} {spare : Nat → Bool} {held : Bool}

theorem strs_open {fuel : Nat} {a : Option Addr} {len cap : Nat} {x : DataW H × List MemPlace} (h : DataW.trod enc Try.prog W base spare held fuel 22 [.slice a len cap] = some x) :
    (a = none → len = 0 ∧ cap = 0) ∧ len ≤ maxLen ∧ ∃ S, StrsIn W a len S := by
  rcases open_slice1 Try.underlying22 Try.cells9 h with ⟨hcs, _⟩ | ⟨ad, l, c, m, n, V, D, Pl, hcs, _, hl, hm, hmm, _, hx⟩
  · simp at hcs
    obtain ⟨rfl, rfl, rfl⟩ := hcs
    exact ⟨fun _ => ⟨rfl, rfl⟩, Nat.zero_le _, fun _ => ByteArray.empty, fun h0 => absurd h0 (by omega)⟩
  · simp at hcs
    obtain ⟨rfl, rfl, rfl⟩ := hcs
    refine ⟨(fun e => by cases e), Nat.le_trans hl hm, ?_⟩
    have hlm : len ≤ m := by rw [hmm]; split <;> omega
    obtain ⟨X, hX⟩ := choose_lt (α := ByteArray) (n := len) (p := fun i z => W.cell? (ad.add i) = some (.string z)) (fun i hi => by
      obtain ⟨hc, ht⟩ := hx i (by omega)
      obtain ⟨z, e, _, _⟩ := DataW.trod_string Try.underlying9 ht
      simp at e
      exact ⟨z, by rw [hc, e]⟩)
    refine ⟨X, fun h0 => ?_⟩
    obtain ⟨b, off, spot⟩ := ad
    have hspot : spot = none := by simpa [Addr.add] using World.cell?_spot (hX 0 h0)
    subst hspot
    refine ⟨b, off, rfl, by simpa [Addr.add] using lt_of_cell (hX 0 h0), fun i hi => ?_⟩
    have := hX i hi
    rwa [add_plain] at this
end
end Go.Proofs.Qxb6617408a
