import Derived.Test.Qxb6621682aOps
import Derived.WalkSmall
namespace Go.Proofs.Qxb6621682a
open Go.RowKit

/-- The first place behind i that belongs to another transaction, or the length. -/
def IsNext (T : Nat → Int) (n i g : Nat) : Prop := i < g ∧ g ≤ n ∧ (∀ j, i < j → j < g → T j = T i) ∧ (g < n → T g ≠ T i)

theorem IsNext.one {T : Nat → Int} {n i : Nat} (hi : i < n) (h : i + 1 < n → T (i + 1) ≠ T i) : IsNext T n i (i + 1) :=
  ⟨by omega, by omega, fun j h1 h2 => by omega, h⟩
theorem IsNext.on {T : Nat → Int} {n i g : Nat} (h : IsNext T n (i + 1) g) (e : T (i + 1) = T i) : IsNext T n i g := by
  obtain ⟨h1, h2, h3, h4⟩ := h
  refine ⟨by omega, h2, fun j a b => ?_, fun hg => by rw [← e]; exact h4 hg⟩
  by_cases ej : j = i + 1
  · rw [ej, e]
  · rw [h3 j (by omega) b, e]
theorem IsNext.unique {T : Nat → Int} {n i g g' : Nat} (h : IsNext T n i g) (h' : IsNext T n i g') : g = g' := by
  obtain ⟨h1, h2, h3, h4⟩ := h
  obtain ⟨k1, k2, k3, k4⟩ := h'
  rcases Nat.lt_trichotomy g g' with c | c | c
  · exact absurd (k3 g h1 c) (h4 (by omega))
  · exact c
  · exact absurd (h3 g' k1 c) (k4 (by omega))

theorem Try.info3 : (Try.prog.info? 3).map (fun i => (i.zero, i.size, i.bytes)) = some (some (.int .i64 0), 1, 8) := by kernel_rfl

def headF (go : Option Addr) (n cap g : Nat) (j : Nat) : Value := if j = 0 then .slice go n cap else .slice (some ⟨g, 0, none⟩) n n

def Linked (L : Nat) (n : Nat) (T : Nat → Int) (w : World) (e : Ending) (w' : World) : Prop :=
  ∃ G : Nat → Nat, e = .returned (.tuple #[]) ∧ Below L w w' ∧ w'.cell? ⟨L, 1, none⟩ = some (.slice (some ⟨w.heap.size, 0, none⟩) n n) ∧ w'.rowIs w.heap.size 3 n (fun i => .int .i64 (G i)) ∧ ∀ i, i < n → IsNext T n i (G i)

theorem rowIs_drewN {w : World} {b : Nat} {t : TypeId} {n : Nat} {f : Nat → Value} (h : w.rowIs b t n f) (m : Nat) : (w.drewN m).rowIs b t n f := h

theorem link_step {L B n j m v : Nat} {T : Nat → Int} {G : Nat → Nat} {H : Nat → Value} {x : Int} {w wr : World} (hx : x = (v : Int)) (hjn : j < n) (hLB : L < B)
    (hLr : wr.rowIs L 40 2 H) (hrow : wr.rowIs B 3 n (fun i => .int .i64 (G i))) (hall : ∀ i, j + 1 ≤ i → i < n → IsNext T n i (G i)) (hv : IsNext T n j v) (hbel : Below L w wr) :
    ∃ G' : Nat → Nat, ((wr.drewN m).setCell ⟨B, j, none⟩ (.int .i64 x)).rowIs L 40 2 H ∧ ((wr.drewN m).setCell ⟨B, j, none⟩ (.int .i64 x)).rowIs B 3 n (fun i => .int .i64 (G' i)) ∧
      (∀ i, j ≤ i → i < n → IsNext T n i (G' i)) ∧ Below L w ((wr.drewN m).setCell ⟨B, j, none⟩ (.int .i64 x)) := by
  subst hx
  refine ⟨fun i => if i = j then v else G i, (rowIs_drewN hLr m).setOther (show L ≠ B by omega) _, ((rowIs_drewN hrow m).set j _).congr fun i _ => ?_, fun i h1 h2 => ?_, (below_drewN hbel m).setCell (show L ≤ B by omega) _⟩
  · by_cases e : i = j <;> simp [e]
  · by_cases e : i = j
    · subst e; simpa using hv
    · simpa [e] using hall i (by omega) h2

set_option maxHeartbeats 1000000 in
theorem link_any (L : Nat) (go : Option Addr) (n cap : Nat) (old : Value) (T : Nat → Int) (w : World) (hn : n ≤ 4096) (hL : w.rowIs L 40 2 (fun j => if j = 0 then .slice go n cap else old))
    (hT : 0 < n → ∃ b off, go = some ⟨b, off, none⟩ ∧ b < L ∧ ∀ i, i < n → w.cell? ⟨b, off + i * 3 + 1, none⟩ = some (.int .i64 (T i))) :
    Calls Try.prog 15 #[.pointer (some ⟨L, 0, none⟩)] w (Linked L n T w) := by
  have hmk := run_make_row' (P := Try.prog) 26 3 (.int .i64 0) 8 Try.underlying26 Try.info3 rfl .i64 .i64 n (by omega) (by omega)
  have c0 := hL.cell (i := 0) (by omega)
  have c1 := hL.cell (i := 1) (by omega)
  have f1 := hL.frozen 1
  simp only [if_true] at c0
  simp only [if_neg (show ¬ (1 = 0) by omega)] at c1
  have hlt := hL.lt
  go_enter Try.func15, Try.ntmps15
  go_wp2
  go_loopw [2] (fun i wr => ∃ (k : Nat) (G : Nat → Nat), k ≤ n ∧ i = .int .i64 ((k : Int) - 1) ∧ wr.rowIs L 40 2 (headF go n cap w.heap.size) ∧ wr.rowIs w.heap.size 3 n (fun i => .int .i64 (G i)) ∧ Hid (∀ i, k ≤ i → i < n → IsNext T n i (G i)) ∧ Below L w wr) (fun i _ => (intOf i + 1).toNat)
  case atStart =>
    have hB : Below L w ((w.setCell ⟨L, 1, none⟩ (.slice (some ⟨w.heap.size, 0, none⟩) n n)).alloc (.cells (madeCells #[.int .i64 0] n) 3)) := Below.alloc ((Below.refl L w).setCell (p := ⟨L, 1, none⟩) (Nat.le_refl _) _) (by simp; omega) _
    refine ⟨n, fun _ => 0, Nat.le_refl _, rfl, ?_, ?_, fun i h1 h2 => by omega, hB⟩
    · refine ((hL.set 1 _).alloc _).congr fun i hi => ?_
      unfold headF
      match i, hi with
      | 0, _ => rfl
      | 1, _ => rfl
    · have h := World.rowIs_made (w.setCell ⟨L, 1, none⟩ (.slice (some ⟨w.heap.size, 0, none⟩) n n)) (.int .i64 0) n 3
      simpa using h
  case round =>
    obtain ⟨k, G, hk, rfl, hLr, hrow, hall, hbel⟩ := hrel
    have d0 : wr.cell? ⟨L, 0, none⟩ = some (.slice go n cap) := hLr.cell (i := 0) (by omega)
    have d1 : wr.cell? ⟨L, 1, none⟩ = some (.slice (some ⟨w.heap.size, 0, none⟩) n n) := hLr.cell (i := 1) (by omega)
    by_cases hk0 : k = 0
    · subst hk0
      go_wp2
      go_end0
      exact ⟨G, rfl, hbel, d1, hrow, fun i hi => hall.out i (Nat.zero_le _) hi⟩
    · obtain ⟨j, rfl⟩ : ∃ j, k = j + 1 := ⟨k - 1, by omega⟩
      rw [show ((j + 1 : Nat) : Int) - 1 = (j : Int) by omega]
      obtain ⟨b, off, rfl, hb, hc⟩ := hT (by omega)
      have t0 : wr.cell? ⟨b, off + j * 3 + 1, none⟩ = some (.int .i64 (T j)) := (hbel.cell hb).trans (hc j (by omega))
      have e0 := hrow.cell (i := j) (by omega)
      have fz := hrow.frozen j
      by_cases hg : (j : Int) + 1 < (n : Int)
      · have t1 : wr.cell? ⟨b, off + (j + 1) * 3 + 1, none⟩ = some (.int .i64 (T (j + 1))) := (hbel.cell hb).trans (hc (j + 1) (by omega))
        have e1 := hrow.cell (i := j + 1) (by omega)
        clear hc hT
        by_cases he : T (j + 1) = T j
        · have HE : Hid (T (j + 1) = T j) := he
          have hbq : (T (j + 1) == T j) = true := by simp [he]
          clear he
          go_wp2
          go_quiet (fail)
          go_wp2
          go_region
          go_wp2
          go_roundw
          case rel =>
            obtain ⟨G', a1, a2, a3, a4⟩ := link_step (m := nq + 1) (v := G (j + 1)) rfl (by omega) hlt hLr hrow hall.out ((hall.out (j + 1) (Nat.le_refl _) (by omega)).on HE.out) hbel
            exact ⟨j, G', by omega, rfl, a1, a2, a3, a4⟩
          case measure => simp [intOf]
        · have HE : Hid (¬ T (j + 1) = T j) := he
          have hbq : (T (j + 1) == T j) = false := by simp [he]
          clear he
          go_wp2
          go_quiet (fail)
          go_wp2
          go_roundw
          case rel =>
            obtain ⟨G', a1, a2, a3, a4⟩ := link_step (m := nq) (v := j + 1) (x := (j : Int) + 1) (by omega) (by omega) hlt hLr hrow hall.out (IsNext.one (by omega) fun _ => HE.out) hbel
            exact ⟨j, G', by omega, rfl, a1, a2, a3, a4⟩
          case measure => simp [intOf]
      · have hd : decide ((j : Int) + 1 < (n : Int)) = false := decide_eq_false hg
        clear hc hT
        go_wp2
        go_quiet (fail)
        go_wp2
        go_roundw
        case rel =>
          obtain ⟨G', a1, a2, a3, a4⟩ := link_step (m := nq) (v := j + 1) (x := (j : Int) + 1) (by omega) (by omega) hlt hLr hrow hall.out (IsNext.one (by omega) fun h => by omega) hbel
          exact ⟨j, G', by omega, rfl, a1, a2, a3, a4⟩
        case measure => simp [intOf]

/-- What ZZRunListLink hands back: a new row of n numbers, each the place that IsNext says. -/
def LinkOf (w : World) (n : Nat) (T : Nat → Int) (e : Ending) (w' : World) : Prop :=
  ∃ (g : Nat) (G : Nat → Nat), e = .returned (.slice (some ⟨g, 0, none⟩) n n) ∧ Below w.heap.size w w' ∧ w.heap.size ≤ g ∧ w'.rowIs g 3 n (fun i => .int .i64 (G i)) ∧ ∀ i, i < n → IsNext T n i (G i)

set_option maxHeartbeats 1000000 in
theorem runLink_any (go : Option Addr) (n cap : Nat) (xo : Option Addr) (m c : Nat) (T : Nat → Int) (w : World) (hn : n ≤ 4096) (hT : TxAt w go n T) :
    Calls Try.prog 12 #[.slice go n cap, .slice xo m c] w (LinkOf w n T) := by
  have hL : (w.alloc (.cells #[.slice go n cap, .slice xo m c] 40)).rowIs w.heap.size 40 2 (fun j => if j = 0 then .slice go n cap else .slice xo m c) :=
    World.rowIs_alloc w #[.slice go n cap, .slice xo m c] 40 _ (fun i hi => by
      match i, hi with
      | 0, _ => rfl
      | 1, _ => rfl)
  have hT' : 0 < n → ∃ b off, go = some ⟨b, off, none⟩ ∧ b < w.heap.size ∧ ∀ i, i < n → (w.alloc (.cells #[.slice go n cap, .slice xo m c] 40)).cell? ⟨b, off + i * 3 + 1, none⟩ = some (.int .i64 (T i)) := fun h0 => by
    obtain ⟨b, off, e, hb, hc⟩ := hT h0
    exact ⟨b, off, e, hb, fun i hi => (((Below.refl w.heap.size w).alloc (Nat.le_refl _) _).cell hb).trans (hc i hi)⟩
  have key := link_any w.heap.size go n cap _ T _ hn hL hT'
  have hK : Hid (Calls Try.prog 15 #[.pointer (some ⟨w.heap.size, 0, none⟩)] (w.alloc (.cells #[.slice go n cap, .slice xo m c] 40)) (Linked w.heap.size n T (w.alloc (.cells #[.slice go n cap, .slice xo m c] 40)))) := key
  clear key hL hT hT'
  go_enter Try.func12, Try.ntmps12
  go_wp2_with fail
  refine hK.out.mono ?_
  rintro e w' ⟨G, rfl, hbel, hc, hrow, hnx⟩
  have e1 : (w.alloc (.cells #[.slice go n cap, .slice xo m c] 40)).heap.size = w.heap.size + 1 := by simp
  rw [e1] at hc hrow
  go_wp2
  go_ret
  exact ⟨_, G, rfl, ((Below.refl w.heap.size w).alloc (Nat.le_refl _) _).trans hbel, by omega, hrow, hnx⟩
end Go.Proofs.Qxb6621682a
