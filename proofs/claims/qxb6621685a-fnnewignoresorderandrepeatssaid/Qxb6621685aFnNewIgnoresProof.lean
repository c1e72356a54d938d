import Derived.Test.Qxb6621685aRows
import Derived.Test.Qxb6621685aIgnores
import Derived.Test.Qxb6621685aOpen
import Derived.WalkKit
import Derived.ProofKit
import Derived.OpenShut
import Derived.ShutString
import Derived.ChangeOld
import Derived.Below
namespace Go.Proofs.Qxb6621685a.fnNewIgnoresOrderAndRepeats
open Go.ChangeShapes Go.WideShapes Go.ChangeAt Go.RowKit
open Go.ChangeMaps (open_string shut_string)

theorem cells22 : Try.prog.cellsOf 22 = 1 := by kernel_rfl

set_option maxRecDepth 100000 in
theorem lifted (os : Os) (started : os.Started) (H : Type) (enc : TypeId × Value → H) :
    ReturnsInHanded {} Try.checked os 4 .any (Rows.fnNewIgnoresOrderAndRepeatsSpec.pre6 enc Try.prog Try.f4 Rows.fnNewIgnoresOrderAndRepeatsRow.domain false) (Rows.fnNewIgnoresOrderAndRepeatsSpec.post enc Try.prog Try.f4 false true false false) := by
  refine returnsInHanded_of_change (C := Try.checked) own started (by kernel_rfl) Try.func4
    (ChangeSpec.witness6 (enc := enc) (C := Try.checked) false ⟨#[], #[.pointer none, .int .i64 0, .int .i64 0, .string ByteArray.empty], []⟩ 8 (by kernel_rfl) (by kernel_rfl) (by kernel_rfl) (by kernel_rfl)) ?_
  intro W base args ds gs before hval0 hW hcnd _
  have hval : ∀ (j : Nat) t v, Try.f4.params[j]? = some t → args[j]? = some v → Value.okWide Try.prog W .any base t v := hval0
  have hW' := hW
  obtain ⟨p, q, hA0, hV, rfl, hfz, hnd⟩ := hW
  have hA : DataW.TrodAll enc Try.prog W 0 (fun _ => true) true Try.f4.params.toList args.toList ds p := hA0
  rw [Try.params4] at hA hval
  obtain ⟨v0, vs0, d0, ds0, p0, q0, hargs, rfl, rfl, h0, r0⟩ := trodAll_cons hA
  obtain ⟨v1, vs1, d1, ds1, p1, q1, rfl, rfl, rfl, h1, r1⟩ := trodAll_cons r0
  obtain ⟨v2, vs2, d2, ds2, p2, q2, rfl, rfl, rfl, h2, r2⟩ := trodAll_cons r1
  obtain ⟨v3, vs3, d3, ds3, p3, q3, rfl, rfl, rfl, h3, r3⟩ := trodAll_cons r2
  obtain ⟨rfl, rfl, rfl⟩ := trodAll_nil r3
  obtain rfl : args = #[v0, v1, v2, v3] := by cases args; simp_all
  obtain ⟨rfl, rfl⟩ := trodVars_none hV
  have k0 := h0
  have lt0 : ∀ x ∈ p0, x.block < W.heap.size := by obtain ⟨m, hm⟩ := k0; exact DataW.trod_lt m _ _ _ hm
  have opened : v0 = .pointer none ∨ ∃ pb po ao n cap S, v0 = .pointer (some ⟨pb, po, none⟩) ∧ W.cell? ⟨pb, po, none⟩ = some (.slice ao n cap) ∧ pb < W.heap.size ∧ n ≤ maxLen ∧ StrsIn W ao n S := by
    rcases ChangeShapes.open_ptr Try.underlying31 (by rw [cells22]; omega) (hval 0 31 v0 rfl rfl) h0 with ⟨h, _, _⟩ | ⟨b, off, cs, y, fuel, h, _, _, hlen, hcell, hy⟩
    · exact .inl h
    · rw [cells22] at hlen hcell
      match cs, hlen with
      | [c], _ =>
        have hc : W.cell? ⟨b, off, none⟩ = some c := by simpa using hcell 0 (by omega)
        obtain ⟨ao, n, cap, rfl⟩ : ∃ ao n cap, c = .slice ao n cap := by
          rcases Deep.open_slice Try.underlying22 hy with ⟨hcs, _⟩ | ⟨ad, l, cp, m, n, D, Pl, hcs, _⟩
          · simp at hcs; exact ⟨_, _, _, hcs⟩
          · simp at hcs; exact ⟨_, _, _, hcs⟩
        obtain ⟨hl, S, hS⟩ := strs_open hy
        exact .inr ⟨b, off, ao, n, cap, S, h, hc, lt_of_cell hc, hl, hS⟩
  obtain ⟨a1, rfl, rfl, rfl, w1⟩ := open_int Try.underlying3 (hval 1 3 v1 rfl rfl) h1
  obtain ⟨a2, rfl, rfl, rfl, w2⟩ := open_int Try.underlying3 (hval 2 3 v2 rfl rfl) h2
  obtain ⟨a3, rfl, rfl, rfl, w3⟩ := open_string Try.underlying9 (hval 3 9 v3 rfl rfl) h3
  clear hA0 hval0
  have walk : Calls Try.prog 4 #[v0, .int .i64 a1, .int .i64 a2, .string a3] W (True5 W) := by
    rcases opened with rfl | ⟨pb, po, ao, n, cap, S, rfl, hp, hpb, hl, hS⟩
    · exact ignores_nil a1 a2 a3 W w3
    · exact ignores pb po ao n cap S a1 a2 a3 W hp hpb hl w3 hS
  refine walk.mono fun e W' ⟨he, bel⟩ => ?_
  subst he
  exact ⟨_, rfl, _, _, _, [], _, [], hW', trodAll_mk1 (shut_bool Try.underlying4 _), (trodAll_cons_mk (Below.trod laidOut (by kernel_rfl) (of_decide_eq_true (by kernel_rfl)) k0 bel lt0) (trodAll_cons_mk (shut_int Try.underlying3 w1) (trodAll_cons_mk (shut_int Try.underlying3 w2) (trodAll_cons_mk (shut_string Try.underlying9 w3) trodAll_mk0)))), rfl, bel.frame _, fun h => by cases h⟩

theorem over : Rows.fnNewIgnoresOrderAndRepeatsRow.holds Try.pinned (OpenSpec.ofChange Rows.fnNewIgnoresOrderAndRepeatsSpec) :=
  OpenClaim.holds_of_wide 4 Try.f4 rfl rfl rfl rfl rfl rfl rfl ⟨rfl, rfl, rfl, rfl, rfl⟩ rfl rfl rfl rfl rfl (by kernel_rfl) Try.func4 (by kernel_rfl)
    (of_decide_eq_true (by kernel_rfl)) (by unfold Func.isWrapper; first | (rw [if_pos (by decide +kernel)]; kernel_rfl) | (rw [if_neg (by decide +kernel)]; exact ⟨rfl, rfl⟩))
    (fun os started H enc _ => lifted os started H enc)

/-- THE STATEMENT -/
theorem proved : Rows.FnNewIgnoresOrderAndRepeatsSaid := over
#print axioms proved
end Go.Proofs.Qxb6621685a.fnNewIgnoresOrderAndRepeats
