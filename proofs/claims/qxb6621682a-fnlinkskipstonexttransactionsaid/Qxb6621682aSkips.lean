import Derived.Test.Qxb6621682aShared
namespace Go.Proofs.Qxb6621682a
open Go.RowKit

theorem next_left {T : Nat → Int} {n k i a : Nat} (h : IsNext T k i a) (hkn : k ≤ n) (hne : ¬ (a = k ∧ k < n ∧ T k = T i)) : IsNext T n i a := by
  obtain ⟨h1, h2, h3, h4⟩ := h
  refine ⟨h1, by omega, h3, fun ha => ?_⟩
  by_cases e : a < k
  · exact h4 e
  · have e' : a = k := by omega
    subst e'
    exact fun ht => hne ⟨rfl, ha, ht⟩
theorem next_join {T : Nat → Int} {n k i b : Nat} (h : IsNext T k i k) (hkn : k < n) (ht : T k = T i) (hb : IsNext (fun j => T (k + j)) (n - k) 0 b) : IsNext T n i (k + b) := by
  obtain ⟨h1, h2, h3, h4⟩ := h
  obtain ⟨b1, b2, b3, b4⟩ := hb
  refine ⟨by omega, by omega, fun j ha hl => ?_, fun hg => ?_⟩
  · rcases Nat.lt_trichotomy j k with c | c | c
    · exact h3 j ha c
    · rw [c, ht]
    · have := b3 (j - k) (by omega) (by omega)
      simp only [Nat.add_zero] at this
      rw [show k + (j - k) = j by omega] at this
      rw [this, ht]
  · have := b4 (by omega)
    simp only [Nat.add_zero] at this
    rwa [ht] at this
theorem next_right {T : Nat → Int} {n k i b : Nat} (hk : k ≤ i) (h : IsNext (fun j => T (k + j)) (n - k) (i - k) b) : IsNext T n i (k + b) := by
  obtain ⟨b1, b2, b3, b4⟩ := h
  simp only [show k + (i - k) = i by omega] at b3 b4
  refine ⟨by omega, by omega, fun j ha hl => ?_, fun hg => b4 (by omega)⟩
  have := b3 (j - k) (by omega) (by omega)
  rwa [show k + (j - k) = j by omega] at this

theorem TxAt.head {w : World} {go : Option Addr} {n : Nat} {T : Nat → Int} (h : TxAt w go n T) {k : Nat} (hk : k ≤ n) : TxAt w go k T := fun h0 => by
  obtain ⟨b, off, e, hb, hc⟩ := h (by omega)
  exact ⟨b, off, e, hb, fun i hi => hc i (by omega)⟩
theorem TxAt.tail {w : World} {b off n : Nat} {T : Nat → Int} (hb : b < w.heap.size) (h : ∀ i, i < n → w.cell? ⟨b, off + i * 3 + 1, none⟩ = some (.int .i64 (T i))) (k : Nat) (ao : Option Addr) (hao : k < n → ao = some ⟨b, off + k * 3, none⟩) : TxAt w ao (n - k) (fun j => T (k + j)) := fun h0 => by
  refine ⟨b, off + k * 3, hao (by omega), hb, fun i hi => ?_⟩
  rw [← h (k + i) (by omega)]
  congr 2; omega

theorem row_later {w w' : World} {g : Nat} {t : TypeId} {n : Nat} {f : Nat → Value} (h : w.rowIs g t n f) (hb : Below w.heap.size w w') : w'.rowIs g t n f := h.of_block (hb.block g h.lt)

set_option maxRecDepth 100000 in
set_option maxHeartbeats 2000000 in
theorem skips (ao : Option Addr) (n cap : Nat) (K T : Nat → Int) (S : Nat → ByteArray) (xo : Option Addr) (m c : Nat) (X : Nat → Int) (q : Int) (w : World)
    (hz : ao = none → n = 0 ∧ cap = 0) (ho : OpsIn w ao n K T S) (hx : IntsIn w xo m X) (hn : n ≤ maxLen) (hm : m ≤ maxLen) :
    Calls Try.prog 4 #[.slice ao n cap, .slice xo m c, .int .i64 q] w (True5 w) := by
  have hneq := fun (w : World) (a : Option Addr) (n c n' c' : Nat) => run_neq_slice_nil_any (P := Try.prog) w 26 3 a n c n' c' Try.underlying26
  have HN : Hid (n ≤ maxLen ∧ m ≤ maxLen) := ⟨hn, hm⟩
  unfold maxLen at hm
  clear hn
  by_cases h1 : (m : Int) ≤ 4096
  · have hmk := run_make_row' (P := Try.prog) 26 3 (.int .i64 0) 8 Try.underlying26 Try.info3 rfl .i64 .i64 m (by omega) (by omega)
    go_enter Try.func4, Try.ntmps4
    go_wp2_with fail
    refine (bytes9 ao n cap K T S xo m c q _ ho HN.out.1 HN.out.2).mono ?_
    rintro e w1 ⟨r, rfl, rfl, hr⟩
    cases r with
    | false =>
      go_wp2
      go_ret
      exact ⟨rfl, Below.refl _ _⟩
    | true =>
      obtain ⟨hn, hS⟩ := hr rfl
      go_wp2_with fail
      refine (tooBig_any ao n cap (8 * (m : Int)) K T S _ (by omega) (by omega) ho hn hS).mono ?_
      rintro e w1 ⟨r, rfl, rfl, hr⟩
      cases r with
      | true =>
        go_wp2
        go_ret
        exact ⟨rfl, Below.refl _ _⟩
      | false =>
        have hn4 := hr rfl
        clear hr hS hn
        go_upto_if 33 with fail
        go_cut [1] (fun s wr => ∃ (xo' : Option Addr) (c' : Nat), s = .slice xo' m c' ∧ Below w1.heap.size w1 wr)
        case first =>
          cases xo with
          | none =>
            go_wp2
            go_meet
            case rel => exact ⟨_, _, rfl, Below.refl _ _⟩
          | some xa =>
            obtain ⟨w2, hcp, hb2⟩ := copy_next xa m c hx
            go_wp2
            go_meet
            case rel => exact ⟨_, _, rfl, hb2⟩
        case rest =>
          obtain ⟨xo', c', rfl, hb1⟩ := hcut
          go_wp2_with fail
          refine (ops_any ao n cap K T S _ hz (ho.later hb1) hn4).mono ?_
          rintro e w2 ⟨go, rfl, hb2, hT2⟩
          go_wp2_with fail
          refine (runLink_any go n n xo' m c' T _ hn4 hT2).mono ?_
          rintro e w3 ⟨g, G, rfl, hb3, hg3, hrow, hnx⟩
          have hT3 := hT2.later hb3
          have hbw : Below w1.heap.size w1 w3 := (hb1.trans (hb2.mono hb1.size)).trans (hb3.mono (Nat.le_trans hb1.size hb2.size))
          have hglt := hrow.lt
          clear hT2 hb3 hb2 hb1 hmk
          have hq : ((n : Int) != (n : Int)) = false := by simp
          go_wp2
          go_loopw [11] (fun i wr => ∃ k : Nat, k ≤ n ∧ i = .int .i64 k ∧ Below w3.heap.size w3 wr) (fun i _ => n - (intOf i).toNat)
          case atStart => exact ⟨0, Nat.zero_le _, rfl, Below.refl _ _⟩
          case round =>
            obtain ⟨k, hk, rfl, hbr⟩ := hrel
            by_cases hlt : k < n
            · obtain ⟨b, off, rfl, hb, hc⟩ := hT3 (by omega)
              obtain ⟨hgk1, hgk2, hgk3, hgk4⟩ := hnx k hlt
              have t0 : wr.cell? ⟨b, off + k * 3 + 1, none⟩ = some (.int .i64 (T k)) := (hbr.cell hb).trans (hc k hlt)
              have g0 : wr.cell? ⟨g, k, none⟩ = some (.int .i64 (G k)) := (hbr.cell hglt).trans (hrow.cell hlt)
              have HG : Hid (∀ j, k < j → j < G k → T j = T k) := hgk3
              have HG4 : Hid (G k < n → T (G k) ≠ T k) := hgk4
              have HNX : Hid (∀ i, i < n → IsNext T n i (G i)) := hnx
              have HC : Hid (∀ i, i < n → w3.cell? ⟨b, off + i * 3 + 1, none⟩ = some (.int .i64 (T i))) := hc
              clear hgk3 hgk4 hnx hc
              go_wp2
              go_loopw [13] (fun j wi => ∃ l : Nat, k + 1 ≤ l ∧ l ≤ G k ∧ j = .int .i64 l ∧ Below w3.heap.size w3 wi) (fun j _ => G k - (intOf j).toNat)
              case atStart => exact ⟨k + 1, Nat.le_refl _, by omega, by go_num, hbr⟩
              case round =>
                obtain ⟨l, hl1, hl2, rfl, hbi⟩ := hrel
                by_cases hlg : l < G k
                · have tl : wr.cell? ⟨b, off + l * 3 + 1, none⟩ = some (.int .i64 (T l)) := (hbi.cell hb).trans (HC.out l (by omega))
                  have tk : wr.cell? ⟨b, off + k * 3 + 1, none⟩ = some (.int .i64 (T k)) := (hbi.cell hb).trans (HC.out k hlt)
                  have hne : (T l != T k) = false := by simp [HG.out l (by omega) hlg]
                  clear t0 g0
                  go_wp2
                  go_quiet (fail)
                  go_wp2
                  go_roundw
                  case rel => exact ⟨l + 1, by omega, by omega, by go_num, below_drewN hbi _⟩
                  case measure => simp [intOf]; omega
                · have hle : l = G k := by omega
                  clear hlg
                  by_cases hgn : (G k : Int) < (n : Int)
                  · have tg : wr.cell? ⟨b, off + G k * 3 + 1, none⟩ = some (.int .i64 (T (G k))) := (hbi.cell hb).trans (HC.out (G k) (by omega))
                    have tk : wr.cell? ⟨b, off + k * 3 + 1, none⟩ = some (.int .i64 (T k)) := (hbi.cell hb).trans (HC.out k hlt)
                    have heq : (T (G k) == T k) = false := by simpa using HG4.out (by omega)
                    clear t0 g0
                    subst hle
                    go_wp2
                    go_quiet (fail)
                    go_wp2
                    go_roundw
                    case rel => exact ⟨k + 1, by omega, by go_num, below_drewN hbi _⟩
                    case measure => simp [intOf]; omega
                  · have hd : decide (G k < n) = false := decide_eq_false (by omega)
                    clear t0 g0
                    subst hle
                    go_wp2
                    go_quiet (fail)
                    go_wp2
                    go_roundw
                    case rel => exact ⟨k + 1, by omega, by go_num, below_drewN hbi _⟩
                    case measure => simp [intOf]; omega
            · have hkn : k = n := by omega
              subst hkn
              by_cases hq0 : q < 0
              · go_wp2
                go_ret
                exact ⟨rfl, hbw.trans (hbr.mono hbw.size)⟩
              · by_cases hq1 : (k : Int) < q
                · go_wp2
                  go_ret
                  exact ⟨rfl, hbw.trans (hbr.mono hbw.size)⟩
                · obtain ⟨p, rfl⟩ := Int.eq_ofNat_of_zero_le (show 0 ≤ q by omega)
                  have hp : p ≤ k := by omega
                  have hT4 := hT3.later hbr
                  have hrow4 := row_later hrow hbr
                  have HNX : Hid (∀ i, i < k → IsNext T k i (G i)) := hnx
                  clear hnx hT3 hrow hlt hk
                  go_wp2_with fail
                  refine (runLink_any go p k none 0 0 T _ (by omega) (hT4.head hp)).mono ?_
                  rintro e w5 ⟨ga, A, rfl, hb5, hga, hrowa, hnxa⟩
                  have hT5 := hT4.later hb5
                  have hrow5 := row_later hrow4 hb5
                  have HNA : Hid (∀ i, i < p → IsNext T p i (A i)) := hnxa
                  clear hnxa hT4 hrow4
                  go_upto_region 32 with fail
                  go_cut [15] (fun s wr => ∃ (gb : Nat) (B : Nat → Nat), s = .slice (some ⟨gb, 0, none⟩) (k - p) (k - p) ∧ Below w5.heap.size w5 wr ∧ wr.rowIs gb 3 (k - p) (fun i => .int .i64 (B i)) ∧ Hid (∀ i, i < k - p → IsNext (fun j => T (p + j)) (k - p) i (B i)))
                  case first =>
                    by_cases hpk : p = k
                    · subst hpk
                      go_wp2_with fail
                      refine (runLink_any go 0 0 none 0 0 (fun j => T (p + j)) _ (by omega) (fun h => absurd h (by omega))).mono ?_
                      rintro e w6 ⟨gb, B, rfl, hb6, _, hrowb, hnxb⟩
                      go_wp2
                      go_meet
                      case rel => rw [Nat.sub_self]; exact ⟨gb, B, rfl, hb6, hrowb, hnxb⟩
                    · obtain ⟨b, off, rfl, hb, hc⟩ := hT5 (by omega)
                      have hTb := TxAt.tail hb hc p (some ⟨b, off + p * 3, none⟩) (fun _ => rfl)
                      clear hc
                      have hpk' : ¬ k = p := fun e => hpk e.symm
                      go_wp2_with fail
                      refine (runLink_any (some ⟨b, off + p * 3, none⟩) (k - p) (k - p) none 0 0 (fun j => T (p + j)) _ (by omega) hTb).mono ?_
                      rintro e w6 ⟨gb, B, rfl, hb6, _, hrowb, hnxb⟩
                      go_wp2
                      go_meet
                      case rel => exact ⟨gb, B, rfl, hb6, hrowb, hnxb⟩
                  case rest =>
                    obtain ⟨gb, B, rfl, hb6, hrowb, HNB⟩ := hcut
                    have hTc := hT5.later hb6
                    have hrowg := row_later hrow5 hb6
                    have hrowA := row_later hrowa hb6
                    have hbel : Below w1.heap.size w1 wc := ((hbw.trans (hbr.mono hbw.size)).trans (hb5.mono (Nat.le_trans hbw.size hbr.size))).trans (hb6.mono (Nat.le_trans hbw.size (Nat.le_trans hbr.size hb5.size)))
                    have hsub : (((k - p : Nat) : Int) != (k : Int) - (p : Int)) = false := by
                      rw [show ((k - p : Nat) : Int) = (k : Int) - (p : Int) by omega]; simp
                    clear hT5 hrow5 hrowa hb6 hb5 hbr hbw hq hq0 hq1
                    go_wp2
                    go_loopw [16] (fun i wr => ∃ l : Nat, l ≤ p ∧ i = .int .i64 l ∧ Below wc.heap.size wc wr) (fun i _ => p - (intOf i).toNat)
                    case atStart => exact ⟨0, Nat.zero_le _, rfl, Below.refl _ _⟩
                    case round =>
                      obtain ⟨l, hl, rfl, hbl⟩ := hrel
                      by_cases hlp : l < p
                      · have cg : wr.cell? ⟨g, l, none⟩ = some (.int .i64 (G l)) := (hbl.cell hrowg.lt).trans (hrowg.cell (by omega))
                        have ca : wr.cell? ⟨ga, l, none⟩ = some (.int .i64 (A l)) := (hbl.cell hrowA.lt).trans (hrowA.cell (by omega))
                        obtain ⟨b, off, rfl, hb, hc⟩ := hTc (by omega)
                        have tl : wr.cell? ⟨b, off + l * 3 + 1, none⟩ = some (.int .i64 (T l)) := (hbl.cell hb).trans (hc l (by omega))
                        by_cases c1 : A l = p
                        · by_cases c2 : (p : Int) < (k : Int)
                          · have tp : wr.cell? ⟨b, off + p * 3 + 1, none⟩ = some (.int .i64 (T p)) := (hbl.cell hb).trans (hc p (by omega))
                            have cb : wr.cell? ⟨gb, 0, none⟩ = some (.int .i64 (B 0)) := (hbl.cell hrowb.lt).trans (hrowb.cell (by omega))
                            by_cases c3 : T p = T l
                            · have hG : G l = p + B 0 := (HNX.out l (by omega)).unique (next_join (c1 ▸ HNA.out l hlp) (by omega) c3 (HNB.out 0 (by omega)))
                              have hB := (HNB.out 0 (by omega)).2.1
                              have hbq : (T p == T l) = true := by simp [c3]
                              have cg' : wr.cell? ⟨g, l, none⟩ = some (.int .i64 ((p : Int) + (B 0 : Int))) := by rw [cg, hG]; simp
                              rw [c1] at ca
                              clear c1 c3 hG cg hc
                              go_wp2
                              go_quiet (fail)
                              go_wp2
                              go_roundw
                              case rel => exact ⟨l + 1, by omega, by go_num, below_drewN hbl _⟩
                              case measure => simp [intOf]; omega
                            · have hG : G l = A l := (HNX.out l (by omega)).unique (next_left (HNA.out l hlp) hp fun h => c3 h.2.2)
                              have hbq : (T p == T l) = false := by simp [c3]
                              rw [hG, c1] at cg
                              rw [c1] at ca
                              clear c1 c3 hG hc
                              go_wp2
                              go_quiet (fail)
                              go_wp2
                              go_roundw
                              case rel => exact ⟨l + 1, by omega, by go_num, below_drewN hbl _⟩
                              case measure => simp [intOf]; omega
                          · have hG : G l = A l := (HNX.out l (by omega)).unique (next_left (HNA.out l hlp) hp fun h => by omega)
                            have hd : decide (p < k) = false := decide_eq_false (by omega)
                            rw [hG, c1] at cg
                            rw [c1] at ca
                            clear c1 hG hc
                            go_wp2
                            go_quiet (fail)
                            go_wp2
                            go_roundw
                            case rel => exact ⟨l + 1, by omega, by go_num, below_drewN hbl _⟩
                            case measure => simp [intOf]; omega
                        · have hG : G l = A l := (HNX.out l (by omega)).unique (next_left (HNA.out l hlp) hp fun h => c1 h.1)
                          have hbq : ((A l : Int) == (p : Int)) = false := by simp; omega
                          have hbq' : (A l == p) = false := by simp [c1]
                          rw [hG] at cg
                          clear c1 hG hc
                          go_wp2
                          go_quiet (fail)
                          go_wp2
                          go_roundw
                          case rel => exact ⟨l + 1, by omega, by go_num, below_drewN hbl _⟩
                          case measure => simp [intOf]; omega
                      · go_wp2
                        go_loopw [18] (fun i wr => ∃ l : Nat, p ≤ l ∧ l ≤ k ∧ i = .int .i64 l ∧ Below wc.heap.size wc wr) (fun i _ => k - (intOf i).toNat)
                        case atStart => exact ⟨p, Nat.le_refl _, hp, rfl, hbl⟩
                        case round =>
                          obtain ⟨z, hz1, hz2, rfl, hbz⟩ := hrel
                          by_cases hzk : z < k
                          · have cg : wr.cell? ⟨g, z, none⟩ = some (.int .i64 (G z)) := (hbz.cell hrowg.lt).trans (hrowg.cell (by omega))
                            have hG : G z = p + B (z - p) := (HNX.out z (by omega)).unique (next_right hz1 (HNB.out (z - p) (by omega)))
                            have hB := (HNB.out (z - p) (by omega)).2.1
                            have cb : wr.cell? ⟨gb, z - p, none⟩ = some (.int .i64 (B (z - p))) := (hbz.cell hrowb.lt).trans (hrowb.cell (by omega))
                            have cg' : wr.cell? ⟨g, z, none⟩ = some (.int .i64 ((p : Int) + (B (z - p) : Int))) := by rw [cg, hG]; simp
                            clear cg hG
                            go_wp2
                            go_quiet (fail)
                            go_wp2
                            go_roundw
                            case rel => exact ⟨z + 1, by omega, by omega, by go_num, below_drewN hbz _⟩
                            case measure => simp [intOf]; omega
                          · go_wp2
                            go_ret
                            exact ⟨rfl, hbel.trans (hbz.mono hbel.size)⟩
  · go_enter Try.func4, Try.ntmps4
    go_wp2_with fail
    refine (bytes9 ao n cap K T S xo m c q _ ho HN.out.1 HN.out.2).mono ?_
    rintro e w1 ⟨r, rfl, rfl, hr⟩
    cases r with
    | false =>
      go_wp2
      go_ret
      exact ⟨rfl, Below.refl _ _⟩
    | true =>
      go_wp2
      go_ret
      exact ⟨rfl, Below.refl _ _⟩
end Go.Proofs.Qxb6621682a
