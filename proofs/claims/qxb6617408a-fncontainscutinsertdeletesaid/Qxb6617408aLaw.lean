import Derived.Test.Qxb6617408aParts
namespace Go.Proofs.Qxb6617408a
open Go.RowKit

/-- A row of the call's own while it is filled: its first k strings are as P says. -/
structure Rw (G k C : Nat) (P : Nat → ByteArray → Prop) (wr : World) : Prop where
  hk : k ≤ C
  row : ∃ F, wr.rowIs G 9 C (strV F) ∧ ∀ i, i < k → P i (F i)

theorem Rw.later {G k C : Nat} {P : Nat → ByteArray → Prop} {wr wr' : World} (h : Rw G k C P wr) (hb : Below wr.heap.size wr wr') : Rw G k C P wr' := by
  obtain ⟨F, hr, hF⟩ := h.row
  exact ⟨h.hk, F, row_later hr hb, hF⟩
theorem Rw.start (w : World) (C : Nat) (P : Nat → ByteArray → Prop) : Rw w.heap.size 0 C P (w.alloc (.cells (madeCells #[.string ByteArray.empty] C) 9)) :=
  ⟨Nat.zero_le _, fun _ => ByteArray.empty, World.rowIs_made w (.string ByteArray.empty) C 9, fun i hi => by omega⟩
theorem Rw.step {G k C : Nat} {P : Nat → ByteArray → Prop} {wr : World} (h : Rw G k C P wr) (hk : k < C) (o : Obj) (v : ByteArray) (hv : P k v) : Rw G (k + 1) C P ((wr.alloc o).setCell ⟨G, k, none⟩ (.string v)) := by
  obtain ⟨F, hr, hF⟩ := h.row
  refine ⟨hk, put F k v, row_put (hr.alloc o), fun i hi => ?_⟩
  by_cases e : i = k
  · subst e; rw [put_at]; exact hv
  · rw [put_off e]; exact hF i (by omega)
theorem Rw.lt {G k C : Nat} {P : Nat → ByteArray → Prop} {wr : World} (h : Rw G k C P wr) : G < wr.heap.size := by
  obtain ⟨F, hr, _⟩ := h.row; exact hr.lt
/-- What the list reads as. -/
theorem Rw.strs {G k C : Nat} {P : Nat → ByteArray → Prop} {wr : World} (h : Rw G k C P wr) : ∃ F, StrsIn wr (some ⟨G, 0, none⟩) k F ∧ ∀ i, i < k → P i (F i) := by
  obtain ⟨F, hr, hF⟩ := h.row
  refine ⟨F, fun _ => ⟨G, 0, rfl, hr.lt, fun i hi => ?_⟩, hF⟩
  rw [Nat.zero_add, hr.cell (show i < C by have := h.hk; omega)]
  rfl

theorem ins_here (S : Nat → ByteArray) (i : Nat) (q : ByteArray) : insF S i q i = q := by unfold insF; rw [if_neg (by omega), if_pos rfl]
theorem ins_past {S : Nat → ByteArray} {i z : Nat} {q : ByteArray} (h : i ≤ z) : insF S i q (z + 1) = S z := by unfold insF; rw [if_neg (by omega), if_neg (by omega)]; rfl

def True5 (w : World) (e : Ending) (w' : World) : Prop := e = .returned (.bool true) ∧ Below w.heap.size w w'

set_option maxRecDepth 100000 in
set_option maxHeartbeats 2000000 in
theorem law (ao : Option Addr) (n cap : Nat) (S : Nat → ByteArray) (q : ByteArray) (it : Int) (w : World) (hz : ao = none → n = 0 ∧ cap = 0) (hn : n ≤ maxLen) (hq : q.size ≤ maxLen) (ha : StrsIn w ao n S) :
    Calls Try.prog 3 #[.slice ao n cap, .string q, .int .i64 it] w (True5 w) := by
  have hneq := fun (w : World) (a : Option Addr) (n c n' c' : Nat) => run_neq_slice_nil_any (P := Try.prog) w 22 9 a n c n' c' Try.underlying22
  go_enter Try.func3, Try.ntmps3
  go_wp2_with fail
  refine (bytes4 ao n cap S q it _ hn hq ha).mono ?_
  rintro e w1 ⟨r, rfl, rfl, hr⟩
  cases r with
  | false =>
    go_wp2
    go_ret
    exact ⟨rfl, Below.refl _ _⟩
  | true =>
    obtain ⟨hn', hS, hqs⟩ := hr rfl
    clear hn hq
    by_cases g1 : (n : Int) ≤ 65536
    · by_cases g2 : (q.size : Int) ≤ 65536
      · have hmk := run_make_row' (P := Try.prog) 22 9 (.string ByteArray.empty) 16 Try.underlying22 Try.info9 rfl .i64 .i64 n (by omega) (by omega)
        go_upto_if 30 with fail
        go_cut [0] (fun s0 wq => ∃ lo, s0 = .slice lo n n ∧ StrsIn wq lo n S ∧ Below w1.heap.size w1 wq)
        case first =>
          cases ao with
          | none =>
            obtain ⟨rfl, rfl⟩ := hz rfl
            go_wp2
            go_meet
            case rel => exact ⟨none, rfl, ha, Below.refl _ _⟩
          | some xa =>
            obtain ⟨w2, hcp, hb2, hs2⟩ := copy_list xa n cap ha
            go_wp2
            go_meet
            case rel => exact ⟨_, rfl, hs2, hb2⟩
        case rest =>
          obtain ⟨lo, rfl, hl, hb1⟩ := hcut
          clear hmk ha hz
          go_wp2
          go_loop [8, 9] (fun t i => ∃ (k : Nat) (z : Int), k ≤ n ∧ i = .int .i64 k ∧ 0 ≤ z ∧ z ≤ 1048576 ∧ t = .int .i64 z) (fun _ i => n - (intOf i).toNat)
          case atStart => exact ⟨0, _, Nat.zero_le _, rfl, by omega, by omega, rfl⟩
          case round =>
            obtain ⟨k, z, hk, rfl, hz0, hz1, rfl⟩ := hrel
            by_cases hlt : k < n
            · obtain ⟨b, off, rfl, hb, hc⟩ := hl (by omega)
              have hck := hc k hlt
              have hsz := hS k hlt
              clear hc
              by_cases h3 : z + (16 + ((S k).size : Int)) ≤ 1048576
              · go_wp2
                go_round
                case rel => exact ⟨k + 1, _, by omega, by go_num, by omega, h3, rfl⟩
                case measure => simp [intOf]; omega
              · go_wp2
                go_ret
                exact ⟨rfl, hb1⟩
            · have hkn : n = k := by omega
              subst hkn
              by_cases c1 : it < 0
              · go_wp2
                go_ret
                exact ⟨rfl, hb1⟩
              · by_cases c2 : (n : Int) < it
                · go_wp2
                  go_ret
                  exact ⟨rfl, hb1⟩
                · obtain ⟨i, rfl⟩ := Int.eq_ofNat_of_zero_le (show 0 ≤ it by omega)
                  have hi : i ≤ n := by omega
                  have HC : Hid (hasB S n q = (hasB S i q || hasB (fun j => S (i + j)) (n - i) q)) := has_cut S n i q hi
                  go_wp2_with fail
                  refine (contains_any lo n n S q _ (by omega) hl).mono ?_
                  rintro e w3 ⟨rfl, rfl⟩
                  go_wp2_with fail
                  refine (contains_any lo i n S q _ (by omega) (hl.head hi)).mono ?_
                  rintro e w3 ⟨rfl, rfl⟩
                  go_upto_region 22 with fail
                  go_cut [12] (fun s wq => s = .bool (hasB (fun j => S (i + j)) (n - i) q) ∧ w3 = wq)
                  case first =>
                    have h7 := hl.rest i
                    by_cases hci : n = i
                    · subst hci
                      go_wp2_with fail
                      refine (contains_any lo 0 0 (fun j => S (n + j)) q _ (by omega) (fun h => absurd h (by omega))).mono ?_
                      rintro e w4 ⟨rfl, rfl⟩
                      go_wp2
                      go_meet
                      case rel => rw [Nat.sub_self]; exact ⟨rfl, rfl⟩
                    · go_wp2_with fail
                      refine (contains_any (Option.map (fun x => x.add i) lo) (n - i) (n - i) (fun j => S (i + j)) q _ (by omega) h7).mono ?_
                      rintro e w4 ⟨rfl, rfl⟩
                      go_wp2
                      go_meet
                      case rel => exact ⟨rfl, rfl⟩
                  case rest =>
                    obtain ⟨rfl, rfl⟩ := hcut
                    have hmk1 := make_strs (n + 1) (by omega)
                    simp only [Int.natCast_add, Int.natCast_one] at hmk1
                    have hmk2 := make_strs n (by omega)
                    go_wp2
                    go_loopw [13, 14] (fun sw j wr => ∃ k : Nat, k ≤ i ∧ j = .int .i64 k ∧ sw = .slice (some ⟨w3.heap.size, 0, none⟩) k (n + 1) ∧ Rw w3.heap.size k (n + 1) (fun j v => v = insF S i q j) wr ∧ Below w3.heap.size w3 wr) (fun _ j _ => i - (intOf j).toNat)
                    case atStart => exact ⟨0, Nat.zero_le _, rfl, rfl, Rw.start w3 (n + 1) _, (Below.refl _ _).alloc (Nat.le_refl _) _⟩
                    case round =>
                      obtain ⟨k, hk, rfl, rfl, hrw, hbel⟩ := hrel
                      by_cases hlt : k < i
                      · obtain ⟨b, off, rfl, hb, hc⟩ := hl (by omega)
                        have hcell : wr.cell? ⟨b, off + k, none⟩ = some (.string (S k)) := (hbel.cell hb).trans (hc k (by omega))
                        obtain ⟨F, hF, _⟩ := hrw.row
                        have hroom : k + 1 ≤ n + 1 := by omega
                        have hkn : (k : Int) < (n : Int) := by omega
                        have ga : (wr.alloc (.cells #[.string (S k)] 9)).cell? ⟨w3.heap.size, k, none⟩ = some (.string (F k)) := (hF.alloc _).cell (by omega)
                        have gf : (wr.alloc (.cells #[.string (S k)] 9)).frozen? ⟨w3.heap.size, k, none⟩ = false := (hF.alloc _).frozen k
                        clear hc
                        go_wp2
                        go_roundw
                        case rel => exact ⟨k + 1, by omega, by go_num, rfl, hrw.step (by omega) _ _ (if_pos hlt).symm, (hbel.alloc hbel.size _).setCell (Nat.le_refl _) _⟩
                        case measure => simp [intOf]; omega
                      · have hki : i = k := by omega
                        subst hki
                        have hst := hrw.step (show i < n + 1 by omega) (.cells #[.string q] 9) q (ins_here S i q).symm
                        have HST := hide hst
                        obtain ⟨F, hF, _⟩ := hrw.row
                        have hroom : i + 1 ≤ n + 1 := by omega
                        have ga : (wr.alloc (.cells #[.string q] 9)).cell? ⟨w3.heap.size, i, none⟩ = some (.string (F i)) := (hF.alloc _).cell (by omega)
                        have gf : (wr.alloc (.cells #[.string q] 9)).frozen? ⟨w3.heap.size, i, none⟩ = false := (hF.alloc _).frozen i
                        clear hst
                        go_wp2
                        go_loopw [13, 15] (fun sw j wr => ∃ z : Nat, i ≤ z ∧ z ≤ n ∧ j = .int .i64 z ∧ sw = .slice (some ⟨w3.heap.size, 0, none⟩) (z + 1) (n + 1) ∧ Rw w3.heap.size (z + 1) (n + 1) (fun j v => v = insF S i q j) wr ∧ Below w3.heap.size w3 wr) (fun _ j _ => n - (intOf j).toNat)
                        case atStart => exact ⟨i, Nat.le_refl _, hi, rfl, rfl, HST.out, (hbel.alloc hbel.size _).setCell (Nat.le_refl _) _⟩
                        case round =>
                          clear hrw hbel HST hF ga gf hroom
                          obtain ⟨y, hy1, hy2, rfl, rfl, hrw, hbel⟩ := hrel
                          by_cases hlt : y < n
                          · obtain ⟨b, off, rfl, hb, hc⟩ := hl (by omega)
                            have hcell : wr.cell? ⟨b, off + y, none⟩ = some (.string (S y)) := (hbel.cell hb).trans (hc y (by omega))
                            obtain ⟨F, hF, _⟩ := hrw.row
                            have hroom : y + 1 + 1 ≤ n + 1 := by omega
                            have ga : (wr.alloc (.cells #[.string (S y)] 9)).cell? ⟨w3.heap.size, y + 1, none⟩ = some (.string (F (y + 1))) := (hF.alloc _).cell (by omega)
                            have gf : (wr.alloc (.cells #[.string (S y)] 9)).frozen? ⟨w3.heap.size, y + 1, none⟩ = false := (hF.alloc _).frozen (y + 1)
                            clear hc
                            go_wp2
                            go_roundw
                            case rel => exact ⟨y + 1, by omega, by omega, by go_num, rfl, hrw.step (by omega) _ _ (ins_past hy1).symm, (hbel.alloc hbel.size _).setCell (Nat.le_refl _) _⟩
                            case measure => simp [intOf]; omega
                          · have hyn : n = y := by omega
                            subst hyn
                            have hla := hl.later hbel
                            clear hmk1
                            obtain ⟨wa, hwa⟩ : ∃ wa, wa = wr := ⟨_, rfl⟩
                            subst hwa
                            go_wp2
                            go_loopw [16, 17] (fun so j wq => ∃ k c : Nat, k ≤ n ∧ c ≤ k ∧ j = .int .i64 k ∧ so = .slice (some ⟨wa.heap.size, 0, none⟩) c n ∧ Rw wa.heap.size c n (fun _ v => v.data.toList ≠ q.data.toList) wq ∧ Below wa.heap.size wa wq) (fun _ j _ => n - (intOf j).toNat)
                            case atStart => exact ⟨0, 0, Nat.zero_le _, Nat.le_refl _, rfl, rfl, Rw.start wa n _, (Below.refl _ _).alloc (Nat.le_refl _) _⟩
                            case round =>
                              obtain ⟨k, c, hk, hck, rfl, rfl, hro, hbq⟩ := hrel
                              by_cases hlt : k < n
                              · obtain ⟨b, off, rfl, hb, hc⟩ := hla (by omega)
                                have hcell : wr.cell? ⟨b, off + k, none⟩ = some (.string (S k)) := (hbq.cell hb).trans (hc k (by omega))
                                clear hc
                                by_cases he : (S k).data.toList = q.data.toList
                                · have hbb : ((S k).toList == q.toList) = true := by rw [ByteArray.toList_eq, ByteArray.toList_eq, he]; simp
                                  clear he
                                  go_wp2
                                  go_roundw
                                  case rel => exact ⟨k + 1, c, by omega, by omega, by go_num, rfl, hro, hbq⟩
                                  case measure => simp [intOf]; omega
                                · have hbb : ((S k).toList == q.toList) = false := by rw [ByteArray.toList_eq, ByteArray.toList_eq]; simpa using he
                                  have HST := hide (hro.step (show c < n by omega) (.cells #[.string (S k)] 9) (S k) he)
                                  clear he
                                  obtain ⟨F, hF, _⟩ := hro.row
                                  have hroom : c + 1 ≤ n := by omega
                                  have ga : (wr.alloc (.cells #[.string (S k)] 9)).cell? ⟨wa.heap.size, c, none⟩ = some (.string (F c)) := (hF.alloc _).cell (by omega)
                                  have gf : (wr.alloc (.cells #[.string (S k)] 9)).frozen? ⟨wa.heap.size, c, none⟩ = false := (hF.alloc _).frozen c
                                  go_wp2
                                  go_roundw
                                  case rel => exact ⟨k + 1, c + 1, by omega, by omega, by go_num, rfl, HST.out, (hbq.alloc hbq.size _).setCell (Nat.le_refl _) _⟩
                                  case measure => simp [intOf]; omega
                              · have hkn : n = k := by omega
                                subst hkn
                                obtain ⟨FG, hG, hGP⟩ := (hrw.later hbq).strs
                                obtain ⟨FH, hH, hHP⟩ := hro.strs
                                have hyes : Hid (hasB FG (n + 1) q = true) := hasB_true ⟨i, by omega, by rw [hGP i (by omega), ins_here]⟩
                                have hnot : Hid (hasB FH c q = false) := hasB_false fun ⟨j, hj, e⟩ => hHP j hj e
                                have tt : Below w1.heap.size w1 wr := ((hb1.trans (hbel.mono hb1.size)).trans (hbq.mono (Nat.le_trans hb1.size hbel.size)))
                                clear hrw hro hGP hHP hbq hbel hb1 hmk2
                                go_upto_region 39 with fail
                                go_cut [10, 11, 12, 138] (fun s10 s11 s12 s wq => s10 = .bool (hasB S n q) ∧ s11 = .bool (hasB S i q) ∧ s12 = .bool (hasB (fun j => S (i + j)) (n - i) q) ∧ s = .bool false ∧ wr = wq)
                                case first =>
                                  have hcx := HC.out
                                  cases hA : hasB S i q <;> cases hB : hasB (fun j => S (i + j)) (n - i) q
                                  all_goals
                                    rw [hA, hB] at hcx
                                    go_wp2
                                    go_meet
                                    case rel => exact ⟨by rw [hcx], by rw [hA], by rw [hB], rfl, rfl⟩
                                case rest =>
                                  obtain ⟨rfl, rfl, rfl, rfl, rfl⟩ := hcut
                                  go_wp2_with fail
                                  refine (contains_any (some ⟨w3.heap.size, 0, none⟩) (n + 1) (n + 1) FG q _ (by omega) hG).mono ?_
                                  rintro e w5 ⟨rfl, rfl⟩
                                  rw [hyes.out]
                                  go_wp2_with fail
                                  refine (contains_any (some ⟨wa.heap.size, 0, none⟩) c n FH q _ (by omega) hH).mono ?_
                                  rintro e w5 ⟨rfl, rfl⟩
                                  rw [hnot.out]
                                  go_wp2
                                  go_ret
                                  exact ⟨rfl, tt⟩
      · go_wp2
        go_ret
        exact ⟨rfl, Below.refl _ _⟩
    · go_wp2
      go_ret
      exact ⟨rfl, Below.refl _ _⟩
end Go.Proofs.Qxb6617408a
