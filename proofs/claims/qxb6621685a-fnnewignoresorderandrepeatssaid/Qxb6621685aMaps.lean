import Derived.Test.Qxb6621685aSmall
import Derived.Maps.Own
import Derived.Maps.OwnOps
import Derived.Maps.OwnSet
import Derived.Maps.Views
import Derived.Laws.ResultCell
namespace Go.Proofs.Qxb6621685a
open Go.RowKit Go.Maps Go.WideMaps

theorem run_makeMap_hint (n : Int) (w : World) : (Instr.makeMap 26 (some (.int .i64 n))).run Try.prog w = .ok (.map (some w.heap.size)) (w.alloc (.map #[] 0)) := by
  simp [Instr.makeMap, run_underlying Try.underlying26, asInt, asIntOf, newObj, Result.andThen]
  rfl

theorem law9 : Keyed Try.prog 9 := string_keyed Try.underlying9
theorem zero4 (w : World) : (zeroValue 4).run Try.prog w = .ok (.bool false) w := by kernel_rfl

/-- What the map holds: just the strings of the list, each with the value true. -/
def SetD (D : DataW Unit) (L : List (List UInt8)) : Prop :=
  (∀ k, Maps.has D (.string k) = decide (k ∈ L)) ∧ (∀ k ∈ L, D.atKey (.string k) (.lit (.bool false)) = .lit (.bool true)) ∧ Maps.size D = nd L

theorem SetD.empty : SetD (.map []) [] := ⟨fun k => by simp [Maps.has], fun k h => by simp at h, rfl⟩
theorem keyLit (k : List UInt8) : WideAt.IsKeyLit (.string k) := trivial
theorem SetD.snoc {D : DataW Unit} {L : List (List UInt8)} (h : SetD D L) (ht : Tidy D) (x : List UInt8) : SetD (D.put (.string x) (.lit (.bool true))) (L ++ [x]) := by
  obtain ⟨h1, h2, h3⟩ := h
  refine ⟨fun k => ?_, fun k hk => ?_, ?_⟩
  · by_cases e : k = x
    · subst e
      rw [has_put_same ht.isMap (keyLit k)]
      simp
    · rw [has_put_other (by simpa using e), h1 k]
      simp [e]
  · by_cases e : k = x
    · subst e
      exact atKey_put_same ht.isMap (keyLit k) _ _
    · rw [atKey_put_other (by simpa using e)]
      refine h2 k ?_
      simpa [e] using hk
  · rw [size_put ht, h1 x, nd_snoc, h3]
    by_cases e : x ∈ L <;> simp [e]

/-- Block B is a map that holds just the strings of the list. -/
def IsSet (w : World) (B : Nat) (L : List (List UInt8)) : Prop := ∃ (m : Nat) (D : DataW Unit), w.ownsMap Try.prog 9 (plainElem Try.prog 4) B m D ∧ SetD D L

theorem IsSet.later {w w' : World} {B : Nat} {L : List (List UInt8)} (h : IsSet w B L) (hb : Below w.heap.size w w') : IsSet w' B L := by
  obtain ⟨m, D, ⟨es, clock, hh, r⟩, hs⟩ := h
  have hlt : B < w.heap.size := (Array.getElem?_eq_some_iff.1 hh).1
  exact ⟨m, D, ⟨es, clock, (hb.block B hlt).trans hh, r⟩, hs⟩
theorem IsSet.lt {w : World} {B : Nat} {L : List (List UInt8)} (h : IsSet w B L) : B < w.heap.size := by
  obtain ⟨m, D, ho, _⟩ := h; exact ho.lt

def NewOf (w : World) (L : List (List UInt8)) (e : Ending) (w' : World) : Prop := ∃ B, e = .returned (.agg #[.map (some B)]) ∧ Below w.heap.size w w' ∧ w.heap.size ≤ B ∧ IsSet w' B L

set_option maxHeartbeats 1000000 in
theorem new_any (pb po : Nat) (ao : Option Addr) (n cap : Nat) (S : Nat → ByteArray) (w : World) (hn : n ≤ 1048576) (hp : w.cell? ⟨pb, po, none⟩ = some (.slice ao n cap)) (hpb : pb < w.heap.size) (h : StrsIn w ao n S) (hS : Short S n) :
    Calls Try.prog 8 #[.pointer (some ⟨pb, po, none⟩)] w (NewOf w (upTo S n)) := by
  have hmm := run_makeMap_hint
  have hp1 : ∀ o, (w.alloc o).cell? ⟨pb, po, none⟩ = some (.slice ao n cap) := fun o => (((Below.refl _ w).alloc (Nat.le_refl _) o).cell hpb).trans hp
  go_enter Try.func8, Try.ntmps8
  go_wp2
  go_loopw [18] (fun i wr => ∃ (k : Nat) (D : DataW Unit), k ≤ n ∧ i = .int .i64 k ∧ wr.ownsMap Try.prog 9 (plainElem Try.prog 4) (w.heap.size + 1) k D ∧ Hid (SetD D (upTo S k)) ∧ wr.rowIs w.heap.size 29 1 (fun _ => .map none) ∧ Below w.heap.size w wr) (fun i _ => n - (intOf i).toNat)
  case atStart =>
    have hm := World.ownsMap_made (H := Unit) (w.alloc (.cells #[.map none] 29)) Try.prog 9 (plainElem Try.prog 4)
    have e1 : (w.alloc (.cells #[.map none] 29)).heap.size = w.heap.size + 1 := by simp
    rw [e1] at hm
    refine ⟨0, .map [], Nat.zero_le _, rfl, hm, SetD.empty, (World.rowIs_alloc w #[.map none] 29 _ (fun i hi => ?_)).alloc _, ((Below.refl _ _).alloc (Nat.le_refl _) _).alloc (by simp) _⟩
    match i, hi with
    | 0, _ => rfl
  case round =>
    obtain ⟨k, D, hk, rfl, hown, hset, hrow, hbel⟩ := hrel
    have r0 : wr.cell? ⟨w.heap.size, 0, none⟩ = some (.map none) := hrow.cell (by omega)
    have rf := hrow.frozen 0
    by_cases hlt : k < n
    · obtain ⟨b, off, rfl, hb, hc⟩ := h (by omega)
      have c0 : wr.cell? ⟨b, off + k, none⟩ = some (.string (S k)) := (hbel.cell hb).trans (hc k hlt)
      have hsz := hS k hlt
      obtain ⟨w1, hrun, hown1, hgrow⟩ := hown.update law9 Try.underlying26 (by unfold maxLen; omega) (keyOf_string_mk Try.underlying9 (s := S k) (by unfold maxLen; omega)) (plainElem_bool Try.underlying4 true)
      have HO := hide hown1
      have HG := hide hgrow
      have HOWN := hide hown
      clear hown1 hgrow hown hc
      go_wp2
      go_roundw
      case rel =>
        refine ⟨k + 1, _, by omega, by go_num, HO.out, ?_, hrow.of_block (HG.out.block _ hrow.lt (by simp)), hbel.grown HG.out hbel.size (fun j hj => by cases hj; omega)⟩
        show SetD _ _
        rw [upTo_succ]
        exact hset.out.snoc (HOWN.out.tidy law9) _
      case measure => simp [intOf]; omega
    · have hkn : n = k := by omega
      subst hkn
      have HOWN := hide hown
      clear hown
      have hr1 : (wr.setCell ⟨w.heap.size, 0, none⟩ (.map (some (w.heap.size + 1)))).cell? ⟨w.heap.size, 0, none⟩ = some (.map (some (w.heap.size + 1))) := (hrow.set 0 _).cell (by omega)
      go_wp2
      exact bodyPost_ret (v := .agg #[.map (some (w.heap.size + 1))]) (by simp [results, Try.results8, go_sem, hr1, Result.andThen]) rfl ⟨w.heap.size + 1, rfl, hbel.setCell (Nat.le_refl _) _, by omega, n, D, HOWN.out.setCell (by simp) _, hset.out⟩

/-- ZZAllowed hands the map out. -/
theorem allowed_any (v : Option Nat) (w : World) : Calls Try.prog 7 #[.agg #[.map v]] w fun e w' => e = .returned (.map v) ∧ Below w.heap.size w w' := by
  go_enter Try.func7, Try.ntmps7
  go_wp2
  go_ret
  exact ⟨rfl, (Below.refl _ _).alloc (Nat.le_refl _) _⟩

/-- New(nil). -/
theorem new_nil (w : World) : Calls Try.prog 8 #[.pointer none] w fun e w' => e = .returned (.agg #[.map none]) ∧ Below w.heap.size w w' := by
  go_enter Try.func8, Try.ntmps8
  go_wp2
  exact bodyPost_ret (v := .agg #[.map none]) (by simp [results, Try.results8, go_sem]) rfl ⟨rfl, (Below.refl _ _).alloc (Nat.le_refl _) _⟩

/-- 'v, ok := m[q]' at such a map: both are 'q is on the list'. -/
theorem IsSet.look {w : World} {B : Nat} {L : List (List UInt8)} (h : IsSet w B L) (q : ByteArray) (hq : q.size ≤ 1048576) :
    (Instr.lookup 26 (.map (some B)) (.string q) true).run Try.prog w = .ok (.tuple #[.bool (decide (q.data.toList ∈ L)), .bool (decide (q.data.toList ∈ L))]) w := by
  obtain ⟨m, D, hown, hs1, hs2, _⟩ := h
  obtain ⟨v, ps, hrun, hv⟩ := hown.look_ok law9 Try.underlying26 (zero4 w) (plainElem_bool Try.underlying4 false) (keyOf_string_mk Try.underlying9 (s := q) (by unfold maxLen; omega))
  rw [hrun, hs1]
  have key : D.atKey (.string q.data.toList) (.lit (.bool false)) = .lit (.bool (decide (q.data.toList ∈ L))) := by
    by_cases e : q.data.toList ∈ L
    · rw [hs2 _ e]; simp [e]
    · rw [atKey_of_not_has (by rw [hs1]; simp [e])]; simp [e]
  rw [key] at hv
  have : v = .bool (decide (q.data.toList ∈ L)) := by
    unfold plainElem at hv
    rw [Try.underlying4] at hv
    cases v <;> simp at hv
    simpa using hv.1
  rw [this]
theorem IsSet.len {w : World} {B : Nat} {L : List (List UInt8)} (h : IsSet w B L) (ty : TypeId) : (Builtin.len_ #[26] ty #[.map (some B)]).run Try.prog w = .ok (.int .i64 (nd L)) w := by
  obtain ⟨m, D, hown, _, _, hs3⟩ := h
  rw [hown.len Try.underlying26 ty, hs3]
end Go.Proofs.Qxb6621685a
