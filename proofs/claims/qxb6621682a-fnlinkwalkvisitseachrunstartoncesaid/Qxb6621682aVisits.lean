import Derived.Test.Qxb6621682aShared
namespace Go.Proofs.Qxb6621682a
open Go.RowKit

def VisI (T : Nat → Int) (n k a : Nat) : Prop := k ≤ a ∧ a ≤ n ∧ (∀ j, k ≤ j → j < a → 0 < j ∧ T j = T (j - 1)) ∧ (a < n → a = 0 ∨ T a ≠ T (a - 1))

theorem VisI.start (T : Nat → Int) (n : Nat) : VisI T n 0 0 := ⟨by omega, by omega, fun j h1 h2 => by omega, fun _ => .inl rfl⟩
theorem VisI.zero {T : Nat → Int} {n a : Nat} (h : VisI T n 0 a) : a = 0 := by
  obtain ⟨h1, h2, h3, h4⟩ := h
  rcases Nat.eq_zero_or_pos a with e | e
  · exact e
  · have := h3 0 (Nat.le_refl _) e; omega
theorem VisI.here {T : Nat → Int} {n k a : Nat} (h : VisI T n k a) (hT : ¬ T k = T (k - 1)) : a = k := by
  obtain ⟨h1, h2, h3, h4⟩ := h
  rcases Nat.lt_or_ge k a with e | e
  · exact absurd (h3 k (Nat.le_refl _) e).2 hT
  · omega
theorem VisI.go {T : Nat → Int} {n k a : Nat} (h : VisI T n k a) (hk : 0 < k) (hkn : k < n) (hT : T k = T (k - 1)) : VisI T n (k + 1) a := by
  obtain ⟨h1, h2, h3, h4⟩ := h
  have hne : a ≠ k := fun e => by
    subst e
    rcases h4 hkn with e | e
    · omega
    · exact e hT
  exact ⟨by omega, h2, fun j a b => h3 j (by omega) b, h4⟩
theorem VisI.jump {T : Nat → Int} {n k g : Nat} (h : IsNext T n k g) : VisI T n (k + 1) g := by
  obtain ⟨h1, h2, h3, h4⟩ := h
  refine ⟨by omega, h2, fun j a b => ⟨by omega, ?_⟩, fun hg => .inr ?_⟩
  · rw [h3 j (by omega) b]
    by_cases e : j - 1 = k
    · rw [e]
    · rw [h3 (j - 1) (by omega) (by omega)]
  · by_cases e : g - 1 = k
    · rw [e]; exact h4 hg
    · rw [h3 (g - 1) (by omega) (by omega)]; exact h4 hg
theorem VisI.done {T : Nat → Int} {n a : Nat} (h : VisI T n n a) : a = n := by
  obtain ⟨h1, h2, _⟩ := h; omega

set_option maxHeartbeats 1000000 in
theorem visits (ao : Option Addr) (n cap : Nat) (K T : Nat → Int) (S : Nat → ByteArray) (xo : Option Addr) (m c : Nat) (X : Nat → Int) (w : World)
    (hz : ao = none → n = 0 ∧ cap = 0) (ho : OpsIn w ao n K T S) (hx : IntsIn w xo m X) (hn : n ≤ maxLen) (hm : m ≤ maxLen) :
    Calls Try.prog 5 #[.slice ao n cap, .slice xo m c] w (True5 w) := by
  have hneq := fun (w : World) (a : Option Addr) (n c n' c' : Nat) => run_neq_slice_nil_any (P := Try.prog) w 26 3 a n c n' c' Try.underlying26
  have HN : Hid (n ≤ maxLen ∧ m ≤ maxLen) := ⟨hn, hm⟩
  unfold maxLen at hm
  clear hn
  by_cases h1 : (m : Int) ≤ 4096
  · have hmk := run_make_row' (P := Try.prog) 26 3 (.int .i64 0) 8 Try.underlying26 Try.info3 rfl .i64 .i64 m (by omega) (by omega)
    go_enter Try.func5, Try.ntmps5
    go_wp2_with fail
    refine (bytes13 ao n cap K T S xo m c _ ho HN.out.1 HN.out.2).mono ?_
    rintro e w1 ⟨r, rfl, rfl, hr⟩
    cases r with
    | false =>
      go_wp2
      go_ret
      exact ⟨rfl, Below.refl _ _⟩
    | true =>
      obtain ⟨hn, hS⟩ := hr rfl
      go_wp2_with fail
      refine (tooBig_any ao n cap (8 * (m : Int)) K T S _ (by omega) (by omega) ho hn hS).mono ?_
      rintro e w1 ⟨r, rfl, rfl, hr⟩
      cases r with
      | true =>
        go_wp2
        go_ret
        exact ⟨rfl, Below.refl _ _⟩
      | false =>
        have hn4 := hr rfl
        clear hr hS hn
        go_upto_if 24 with fail
        go_cut [1] (fun s wr => ∃ (xo' : Option Addr) (c' : Nat), s = .slice xo' m c' ∧ Below w1.heap.size w1 wr)
        case first =>
          cases xo with
          | none =>
            go_wp2
            go_meet
            case rel => exact ⟨_, _, rfl, Below.refl _ _⟩
          | some xa =>
            obtain ⟨w2, hcp, hb2⟩ := copy_next xa m c hx
            go_wp2
            go_meet
            case rel => exact ⟨_, _, rfl, hb2⟩
        case rest =>
          obtain ⟨xo', c', rfl, hb1⟩ := hcut
          go_wp2_with fail
          refine (ops_any ao n cap K T S _ hz (ho.later hb1) hn4).mono ?_
          rintro e w2 ⟨go, rfl, hb2, hT2⟩
          go_wp2_with fail
          refine (runLink_any go n n xo' m c' T _ hn4 hT2).mono ?_
          rintro e w3 ⟨g, G, rfl, hb3, hg3, hrow, hnx⟩
          have hT3 := hT2.later hb3
          have hbw : Below w1.heap.size w1 w3 := (hb1.trans (hb2.mono hb1.size)).trans (hb3.mono (Nat.le_trans hb1.size hb2.size))
          have hglt := hrow.lt
          clear hT2 hb3 hb2 hb1 hmk
          have hq : ((n : Int) != (n : Int)) = false := by simp
          go_wp2
          go_loopw [9, 10] (fun at_ i wr => ∃ k a : Nat, k ≤ n ∧ i = .int .i64 k ∧ at_ = .int .i64 a ∧ Hid (VisI T n k a) ∧ Below w3.heap.size w3 wr) (fun _ i _ => n - (intOf i).toNat)
          case atStart => exact ⟨0, 0, Nat.zero_le _, rfl, rfl, VisI.start T n, Below.refl _ _⟩
          case round =>
            obtain ⟨k, a, hk, rfl, rfl, hv, hbr⟩ := hrel
            by_cases hlt : k < n
            · obtain ⟨b, off, rfl, hb, hc⟩ := hT3 (by omega)
              have hgk := hnx k hlt
              have hgk1 := hgk.1
              have hgk2 := hgk.2.1
              have t0 : wr.cell? ⟨b, off + k * 3 + 1, none⟩ = some (.int .i64 (T k)) := (hbr.cell hb).trans (hc k hlt)
              have g0 : wr.cell? ⟨g, k, none⟩ = some (.int .i64 (G k)) := (hbr.cell hglt).trans (hrow.cell hlt)
              have HG : Hid (IsNext T n k (G k)) := hgk
              clear hgk
              by_cases hk0 : k = 0
              · subst hk0
                have ha := hv.out.zero
                subst ha
                have hd : decide ((0 : Int) < ((0 : Nat) : Int)) = false := by simp
                clear hc hT3
                go_wp2
                go_quiet (fail)
                go_wp2
                go_roundw
                case rel => exact ⟨1, G 0, by omega, by go_num, rfl, VisI.jump HG.out, below_drewN hbr _⟩
                case measure => simp [intOf]; omega
              · have hk1 : (0 : Int) < (k : Int) := by omega
                obtain ⟨j, rfl⟩ : ∃ j, k = j + 1 := ⟨k - 1, by omega⟩
                have t1 : wr.cell? ⟨b, off + j * 3 + 1, none⟩ = some (.int .i64 (T j)) := (hbr.cell hb).trans (hc j (by omega))
                clear hc hT3
                by_cases he : T (j + 1) = T j
                · have HE : Hid (T (j + 1) = T j) := he
                  have hbq : (T (j + 1) == T j) = true := by simp [he]
                  clear he
                  go_wp2
                  go_quiet (fail)
                  go_wp2
                  go_roundw
                  case rel => exact ⟨j + 1 + 1, a, by omega, by go_num, rfl, hv.out.go (by omega) hlt HE.out, below_drewN hbr _⟩
                  case measure => simp [intOf]; omega
                · have ha := hv.out.here (by simpa using he)
                  subst ha
                  have hbq : (T (j + 1) == T j) = false := by simp [he]
                  clear he
                  go_wp2
                  go_quiet (fail)
                  go_wp2
                  go_roundw
                  case rel => exact ⟨j + 1 + 1, G (j + 1), by omega, by go_num, rfl, VisI.jump HG.out, below_drewN hbr _⟩
                  case measure => simp [intOf]; omega
            · have hkn : k = n := by omega
              subst hkn
              have ha := hv.out.done
              subst ha
              go_wp2
              go_ret
              exact ⟨rfl, hbw.trans (hbr.mono hbw.size)⟩
  · go_enter Try.func5, Try.ntmps5
    go_wp2_with fail
    refine (bytes13 ao n cap K T S xo m c _ ho HN.out.1 HN.out.2).mono ?_
    rintro e w1 ⟨r, rfl, rfl, hr⟩
    cases r with
    | false =>
      go_wp2
      go_ret
      exact ⟨rfl, Below.refl _ _⟩
    | true =>
      go_wp2
      go_ret
      exact ⟨rfl, Below.refl _ _⟩
end Go.Proofs.Qxb6621682a
