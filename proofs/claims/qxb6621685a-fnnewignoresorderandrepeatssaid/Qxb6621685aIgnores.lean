import Derived.Test.Qxb6621685aJoin
namespace Go.Proofs.Qxb6621685a
open Go.RowKit Go.Maps Go.WideMaps

set_option maxHeartbeats 1000000 in
theorem bytes12_nil (k i : Int) (q : ByteArray) (w : World) (hq : q.size ≤ maxLen) :
    Calls Try.prog 12 #[.pointer none, .int .i64 k, .int .i64 i, .string q] w (Says w fun r => r = true → q.size ≤ 1048576) := by
  unfold maxLen at hq
  by_cases h7 : (q.size : Int) ≤ 1048576
  · go_enter Try.func12, Try.ntmps12
    go_wp2
    go_ret
    exact Says.mk _ fun _ => by omega
  · go_enter Try.func12, Try.ntmps12
    go_wp2
    go_ret
    exact Says.mk _ (by simp)

set_option maxHeartbeats 1000000 in
theorem bytes12 (pb po : Nat) (ao : Option Addr) (n cap : Nat) (S : Nat → ByteArray) (k i : Int) (q : ByteArray) (w : World) (hp : w.cell? ⟨pb, po, none⟩ = some (.slice ao n cap)) (hn : n ≤ maxLen) (hq : q.size ≤ maxLen) (ha : StrsIn w ao n S) :
    Calls Try.prog 12 #[.pointer (some ⟨pb, po, none⟩), .int .i64 k, .int .i64 i, .string q] w (Says w fun r => r = true → n ≤ 1048576 ∧ Short S n ∧ q.size ≤ 1048576) := by
  unfold maxLen at hn hq
  by_cases h1 : (n : Int) ≤ 1048576
  · go_enter Try.func12, Try.ntmps12
    go_wp2
    go_loop [9, 10] (fun t i => ∃ (k : Nat) (z : Int), k ≤ n ∧ i = .int .i64 k ∧ 0 ≤ z ∧ z ≤ 1048576 ∧ t = .int .i64 z ∧ Hid (Short S k)) (fun _ i => n - (intOf i).toNat)
    case atStart => exact ⟨0, _, Nat.zero_le _, rfl, by omega, h1, rfl, fun i hi => by omega⟩
    case round =>
      obtain ⟨k, z, hk, rfl, hz0, hz1, rfl, hall⟩ := hrel
      by_cases hlt : k < n
      · obtain ⟨b, off, rfl, hbl, hc⟩ := ha (by omega)
        have hck := hc k hlt
        clear hc
        by_cases hl : ((S k).size : Int) ≤ 1048576
        · by_cases h3 : z + ((S k).size : Int) ≤ 1048576
          · go_wp2
            go_round
            case rel =>
              refine ⟨k + 1, _, by omega, by go_num, by omega, h3, rfl, fun i hi => ?_⟩
              by_cases e : i = k
              · subst e; omega
              · exact hall i (by omega)
            case measure => simp [intOf]; omega
          · go_wp2
            go_ret
            exact Says.mk _ (by simp)
        · go_wp2
          go_ret
          exact Says.mk _ (by simp)
      · have hkn : n = k := by omega
        subst hkn
        by_cases h7 : (q.size : Int) ≤ 1048576
        · by_cases h8 : z + (q.size : Int) ≤ 1048576
          · go_wp2
            go_ret
            exact Says.mk _ fun _ => ⟨by omega, hall.out, by omega⟩
          · go_wp2
            go_ret
            exact Says.mk _ (by simp)
        · go_wp2
          go_ret
          exact Says.mk _ (by simp)
  · go_enter Try.func12, Try.ntmps12
    go_wp2
    go_ret
    exact Says.mk _ (by simp)

set_option maxRecDepth 100000 in
set_option maxHeartbeats 1000000 in
/-- list = nil: the Policy without a map. -/
theorem ignores_nil (k i : Int) (q : ByteArray) (w : World) (hq : q.size ≤ maxLen) : Calls Try.prog 4 #[.pointer none, .int .i64 k, .int .i64 i, .string q] w (True5 w) := by
  have hnil := fun (w : World) (r : Option Nat) => run_eql_map_nil (P := Try.prog) w 26 9 4 r Try.underlying26
  go_enter Try.func4, Try.ntmps4
  go_wp2_with fail
  refine (bytes12_nil k i q _ hq).mono ?_
  rintro e w1 ⟨r, rfl, rfl, hr⟩
  cases r with
  | false =>
    go_wp2
    go_ret
    exact ⟨rfl, Below.refl _ _⟩
  | true =>
    have hqs := hr rfl
    by_cases g1 : (q.size : Int) ≤ 65536
    · go_wp2_with fail
      refine (new_nil _).mono ?_
      rintro e w2 ⟨rfl, b2⟩
      go_wp2_with fail
      refine (allowed_any none _).mono ?_
      rintro e w3 ⟨rfl, b3⟩
      go_wp2
      go_ret
      exact ⟨rfl, b2.trans (b3.mono b2.size)⟩
    · go_wp2
      go_ret
      exact ⟨rfl, Below.refl _ _⟩

/-- The list turned at k, its i-th name once more. -/
def rotF (S : Nat → ByteArray) (n k i x : Nat) : ByteArray := if x < n - k then S (k + x) else if x < n then S (x - (n - k)) else S i
theorem rot_one {S : Nat → ByteArray} {n k i z : Nat} (h1 : k ≤ z) (h2 : z < n) : rotF S n k i (z - k) = S z := by
  unfold rotF; rw [if_pos (by omega)]; congr 1; omega
theorem rot_two {S : Nat → ByteArray} {n k i j : Nat} (h1 : j < k) (h2 : k ≤ n) : rotF S n k i (n - k + j) = S j := by
  unfold rotF; rw [if_neg (by omega), if_pos (by omega)]; congr 1; omega
theorem rot_three {S : Nat → ByteArray} {n k i : Nat} (h2 : k ≤ n) : rotF S n k i n = S i := by
  unfold rotF
  by_cases h : k = 0
  · rw [if_neg (by omega), if_neg (by omega)]
  · rw [if_neg (by omega), if_neg (by omega)]
theorem rot_mem {S : Nat → ByteArray} {n k i : Nat} (hk : k ≤ n) (hi : 0 < n → i < n) (x : List UInt8) : x ∈ upTo (rotF S n k i) (if 0 < n then n + 1 else 0) ↔ x ∈ upTo S n := by
  rw [mem_upTo, mem_upTo]
  constructor
  · rintro ⟨j, hj, rfl⟩
    split at hj
    · rename_i h0
      unfold rotF
      split
      · exact ⟨k + j, by omega, rfl⟩
      · split
        · exact ⟨j - (n - k), by omega, rfl⟩
        · exact ⟨i, hi h0, rfl⟩
    · omega
  · rintro ⟨j, hj, rfl⟩
    rw [if_pos (by omega)]
    by_cases h : k ≤ j
    · exact ⟨j - k, by omega, by rw [rot_one h hj]⟩
    · exact ⟨n - k + j, by omega, by rw [rot_two (by omega) hk]⟩
theorem rot_short {S : Nat → ByteArray} {n k i N : Nat} (hk : k ≤ n) (hi : 0 < n → i < n) (hN : N ≤ if 0 < n then n + 1 else 0) (h : Short S n) : Short (rotF S n k i) N := fun x hx => by
  unfold rotF
  split at hN
  · split
    · exact h _ (by omega)
    · split
      · exact h _ (by omega)
      · exact h _ (hi (by omega))
  · omega

set_option maxRecDepth 100000 in
set_option maxHeartbeats 2000000 in
theorem ignores_in (pb po : Nat) (ao : Option Addr) (n cap : Nat) (S : Nat → ByteArray) (k i : Nat) (it : Int) (q : ByteArray) (w : World) (hp : w.cell? ⟨pb, po, none⟩ = some (.slice ao n cap)) (hpb : pb < w.heap.size)
    (hn : n ≤ maxLen) (hq : q.size ≤ maxLen) (ha : StrsIn w ao n S) (hk : k ≤ n) (hit : 0 < n → it = (i : Int) ∧ i < n) :
    Calls Try.prog 4 #[.pointer (some ⟨pb, po, none⟩), .int .i64 k, .int .i64 it, .string q] w (True5 w) := by
  have hnil := fun (w : World) (r : Option Nat) => run_eql_map_nil (P := Try.prog) w 26 9 4 r Try.underlying26
  have hkn : ¬ ((n : Int) < (k : Int)) := by omega
  have HIT := hide hit
  clear hit
  go_enter Try.func4, Try.ntmps4
  go_wp2_with fail
  refine (bytes12 pb po ao n cap S k it q _ hp hn hq ha).mono ?_
  rintro e w1 ⟨r, rfl, rfl, hr⟩
  cases r with
  | false =>
    go_wp2
    go_ret
    exact ⟨rfl, Below.refl _ _⟩
  | true =>
    obtain ⟨hn', hS, hqs⟩ := hr rfl
    go_wp2_with fail
    refine (size_any ao n cap 0 S _ (by omega) (by omega) hn' hS ha).mono ?_
    rintro e w1 ⟨u, r, rfl, rfl, hr⟩
    cases r with
    | false =>
      go_wp2
      go_ret
      exact ⟨rfl, Below.refl _ _⟩
    | true =>
      obtain ⟨hu0, hu1, hn6⟩ := hr rfl
      by_cases g1 : (q.size : Int) ≤ 65536
      · by_cases g2 : u + (q.size : Int) ≤ 1048576
        · go_upto_region 18 with fail
          go_cut [2, 83] (fun s2 s wq => s2 = .int .i64 it ∧ s = .bool false ∧ w1 = wq)
          case first =>
            by_cases h0 : n = 0
            · have hd : decide ((0 : Int) < (n : Int)) = false := by simp; omega
              have hd' : decide (0 < n) = false := by simp; omega
              go_wp2
              go_meet
              case rel => exact ⟨rfl, rfl, rfl⟩
            · obtain ⟨e1, e2⟩ := HIT.out (by omega)
              have hd : (0 : Int) < (n : Int) := by omega
              have h2 : ¬ it < 0 := by omega
              have h3 : ¬ (n : Int) ≤ it := by omega
              clear e1
              go_wp2
              go_meet
              case rel => exact ⟨rfl, rfl, rfl⟩
          case rest =>
            obtain ⟨rfl, rfl, rfl⟩ := hcut
            go_wp2_with fail
            refine (new_any pb po ao n cap S _ (by omega) hp hpb ha hS).mono ?_
            rintro e w4 ⟨Ba, rfl, b4, hBa, sa⟩
            go_wp2_with fail
            refine (allowed_any (some Ba) _).mono ?_
            rintro e w5 ⟨rfl, b5⟩
            have t5 : Below w1.heap.size w1 w5 := b4.trans (b5.mono b4.size)
            have sa5 := sa.later b5
            have ha5 := ha.later t5
            clear b4 b5 sa hp
            have hmk := make_strs (n + 1) (by omega)
            simp only [Int.natCast_add, Int.natCast_one] at hmk
            go_wp2
            go_loopw [17] (fun j wr => ∃ z : Nat, k ≤ z ∧ z ≤ n ∧ j = .int .i64 z ∧ Jn w5.heap.size (w5.heap.size + 1) (z - k) (n + 1) (rotF S n k i) wr ∧ Below w5.heap.size w5 wr) (fun j _ => n - (intOf j).toNat)
            case atStart =>
              have hst := Jn.start w5 (n + 1) (rotF S n k i)
              rw [← Nat.sub_self k] at hst
              exact ⟨k, Nat.le_refl _, hk, rfl, by simpa using hst, ((Below.refl _ _).alloc (Nat.le_refl _) _).alloc (by simp) _⟩
            case round =>
              obtain ⟨z, hz1, hz2, rfl, hj, hbel⟩ := hrel
              have vr : wr.cell? ⟨w5.heap.size + 1, 0, none⟩ = some (.slice (some ⟨w5.heap.size, 0, none⟩) (z - k) (n + 1)) := hj.var.cell (by omega)
              by_cases hlt : z < n
              · obtain ⟨b, off, rfl, hb, hc⟩ := ha5 (by omega)
                have hcell : wr.cell? ⟨b, off + z, none⟩ = some (.string (S z)) := (hbel.cell hb).trans (hc z hlt)
                obtain ⟨F, hF, _⟩ := hj.row
                have hroom : z - k + 1 ≤ n + 1 := by omega
                have va : (wr.alloc (.cells #[.string (S z)] 9)).cell? ⟨w5.heap.size + 1, 0, none⟩ = some (.slice (some ⟨w5.heap.size, 0, none⟩) (z - k) (n + 1)) := (hj.var.alloc _).cell (by omega)
                have ga : (wr.alloc (.cells #[.string (S z)] 9)).cell? ⟨w5.heap.size, z - k, none⟩ = some (.string (F (z - k))) := (hF.alloc _).cell (by omega)
                have gf : (wr.alloc (.cells #[.string (S z)] 9)).frozen? ⟨w5.heap.size, z - k, none⟩ = false := (hF.alloc _).frozen (z - k)
                have vf : (wr.alloc (.cells #[.string (S z)] 9)).frozen? ⟨w5.heap.size + 1, 0, none⟩ = false := (hj.var.alloc _).frozen 0
                clear hc
                go_wp2
                go_region
                go_wp2
                go_roundw
                case rel =>
                  have hst := hj.step (show z - k < n + 1 by omega) (.cells #[.string (S z)] 9)
                  rw [rot_one hz1 hlt] at hst
                  refine ⟨z + 1, by omega, by omega, by go_num, ?_, (((hbel.alloc hbel.size _).setCell (Nat.le_refl _) _).setCell (by simp) _).drew⟩
                  rw [show z + 1 - k = z - k + 1 by omega]
                  exact hst
                case measure => simp [intOf]; omega
              · have hzn : n = z := by omega
                subst hzn
                go_wp2
                go_loopw [18] (fun j wr => ∃ z : Nat, z ≤ k ∧ j = .int .i64 z ∧ Jn w5.heap.size (w5.heap.size + 1) (n - k + z) (n + 1) (rotF S n k i) wr ∧ Below w5.heap.size w5 wr) (fun j _ => k - (intOf j).toNat)
                case atStart => exact ⟨0, Nat.zero_le _, rfl, hj, hbel⟩
                case round =>
                  clear hj hbel vr
                  obtain ⟨z, hz1, rfl, hj, hbel⟩ := hrel
                  have vr : wr.cell? ⟨w5.heap.size + 1, 0, none⟩ = some (.slice (some ⟨w5.heap.size, 0, none⟩) (n - k + z) (n + 1)) := hj.var.cell (by omega)
                  by_cases hlt : z < k
                  · obtain ⟨b, off, rfl, hb, hc⟩ := ha5 (by omega)
                    have hcell : wr.cell? ⟨b, off + z, none⟩ = some (.string (S z)) := (hbel.cell hb).trans (hc z (by omega))
                    obtain ⟨F, hF, _⟩ := hj.row
                    have hroom : n - k + z + 1 ≤ n + 1 := by omega
                    have hzn : (z : Int) < (n : Int) := by omega
                    have va : (wr.alloc (.cells #[.string (S z)] 9)).cell? ⟨w5.heap.size + 1, 0, none⟩ = some (.slice (some ⟨w5.heap.size, 0, none⟩) (n - k + z) (n + 1)) := (hj.var.alloc _).cell (by omega)
                    have ga : (wr.alloc (.cells #[.string (S z)] 9)).cell? ⟨w5.heap.size, n - k + z, none⟩ = some (.string (F (n - k + z))) := (hF.alloc _).cell (by omega)
                    have gf : (wr.alloc (.cells #[.string (S z)] 9)).frozen? ⟨w5.heap.size, n - k + z, none⟩ = false := (hF.alloc _).frozen (n - k + z)
                    have vf : (wr.alloc (.cells #[.string (S z)] 9)).frozen? ⟨w5.heap.size + 1, 0, none⟩ = false := (hj.var.alloc _).frozen 0
                    clear hc
                    go_wp2
                    go_region
                    go_wp2
                    go_roundw
                    case rel =>
                      have hst := hj.step (show n - k + z < n + 1 by omega) (.cells #[.string (S z)] 9)
                      rw [rot_two hlt hk] at hst
                      exact ⟨z + 1, by omega, by go_num, hst, (((hbel.alloc hbel.size _).setCell (Nat.le_refl _) _).setCell (by simp) _).drew⟩
                    case measure => simp [intOf]; omega
                  · have hzk : n - k + z = n := by omega
                    rw [hzk] at hj vr
                    clear hzk hmk
                    go_upto_if 116 with fail
                    go_cut [2] (fun s2 wq => s2 = .int .i64 it ∧ Jn w5.heap.size (w5.heap.size + 1) (if 0 < n then n + 1 else 0) (n + 1) (rotF S n k i) wq ∧ Below w5.heap.size w5 wq)
                    case first =>
                      by_cases h0 : n = 0
                      · have hd : decide ((0 : Int) < (n : Int)) = false := by simp; omega
                        have hd' : decide (0 < n) = false := by simp; omega
                        have hd2 : (n : Int) ≤ 0 := by omega
                        have hfin : Hid (Jn w5.heap.size (w5.heap.size + 1) (if 0 < n then n + 1 else 0) (n + 1) (rotF S n k i) wr) := by
                          rw [if_neg (by omega)]; rw [h0] at hj ⊢; exact hj
                        clear h0
                        go_wp2
                        go_meet
                        case rel => exact ⟨rfl, hfin.out, hbel⟩
                      · obtain ⟨e1, e2⟩ := HIT.out (by omega)
                        subst e1
                        have hd : (0 : Int) < (n : Int) := by omega
                        obtain ⟨b, off, rfl, hb, hc⟩ := ha5 (by omega)
                        have hcell : wr.cell? ⟨b, off + i, none⟩ = some (.string (S i)) := (hbel.cell hb).trans (hc i e2)
                        obtain ⟨F, hF, _⟩ := hj.row
                        have va : (wr.alloc (.cells #[.string (S i)] 9)).cell? ⟨w5.heap.size + 1, 0, none⟩ = some (.slice (some ⟨w5.heap.size, 0, none⟩) n (n + 1)) := (hj.var.alloc _).cell (by omega)
                        have ga : (wr.alloc (.cells #[.string (S i)] 9)).cell? ⟨w5.heap.size, n, none⟩ = some (.string (F n)) := (hF.alloc _).cell (by omega)
                        have gf : (wr.alloc (.cells #[.string (S i)] 9)).frozen? ⟨w5.heap.size, n, none⟩ = false := (hF.alloc _).frozen n
                        have vf : (wr.alloc (.cells #[.string (S i)] 9)).frozen? ⟨w5.heap.size + 1, 0, none⟩ = false := (hj.var.alloc _).frozen 0
                        have hst := hj.step (show n < n + 1 by omega) (.cells #[.string (S i)] 9)
                        rw [rot_three hk] at hst
                        have HST := hide hst
                        clear hst hc
                        go_wp2
                        go_region
                        go_wp2
                        go_meet
                        case rel =>
                          rw [if_pos (by omega)]
                          exact ⟨rfl, HST.out, (((hbel.alloc hbel.size _).setCell (Nat.le_refl _) _).setCell (by simp) _).drew⟩
                    case rest =>
                      clear hj hbel vr
                      obtain ⟨rfl, hj, hbel⟩ := hcut
                      obtain ⟨N, HNN⟩ : ∃ N, Hid (N = if 0 < n then n + 1 else 0) := ⟨_, rfl⟩
                      rw [← HNN.out] at hj
                      have hmem : Hid (∀ x, x ∈ upTo (rotF S n k i) N ↔ x ∈ upTo S n) := by
                        rw [HNN.out]; exact rot_mem hk fun h => (HIT.out h).2
                      have hOs : Short (rotF S n k i) N := rot_short hk (fun h => (HIT.out h).2) (by rw [HNN.out]; exact Nat.le_refl _) hS
                      have hN2 : N ≤ n + 1 := hj.hk
                      have vr : wc.cell? ⟨w5.heap.size + 1, 0, none⟩ = some (.slice (some ⟨w5.heap.size, 0, none⟩) N (n + 1)) := hj.var.cell (by omega)
                      have hvlt := hj.var.lt
                      have ha6 := ha5.later hbel
                      have sa6 := sa5.later hbel
                      go_wp2_with fail
                      refine (new_any (w5.heap.size + 1) 0 (some ⟨w5.heap.size, 0, none⟩) N (n + 1) (rotF S n k i) _ (by omega) vr hvlt hj.strs hOs).mono ?_
                      rintro e w7 ⟨Bb, rfl, b7, hBb, sb⟩
                      go_wp2_with fail
                      refine (allowed_any (some Bb) _).mono ?_
                      rintro e w8 ⟨rfl, b8⟩
                      have t8 : Below wc.heap.size wc w8 := b7.trans (b8.mono b7.size)
                      have sb8 := sb.later b8
                      have sa8 := sa6.later t8
                      have ha8 := ha6.later t8
                      have tt : Below w1.heap.size w1 w8 := (t5.trans (hbel.mono t5.size)).trans (t8.mono (Nat.le_trans t5.size hbel.size))
                      clear b7 b8 sb sa6 ha6 vr hvlt hj hbel t5 t8
                      go_wp2_with fail
                      refine (distinct_any ao n cap S _ (by omega) ha8).mono ?_
                      rintro e w9 ⟨rfl, b9⟩
                      have sa9 := sa8.later b9
                      have sb9 := sb8.later b9
                      have ha9 := ha8.later b9
                      have la := fun ty => sa9.len ty
                      have lb : ∀ ty, (Builtin.len_ #[26] ty #[.map (some Bb)]).run Try.prog w9 = .ok (.int .i64 (nd (upTo S n))) w9 := fun ty => by rw [sb9.len ty, nd_same hmem.out]
                      have ka : (Instr.lookup 26 (.map (some Ba)) (.string q) true).run Try.prog w9 = .ok (.tuple #[.bool (hasB S n q), .bool (hasB S n q)]) w9 := sa9.look q hqs
                      have kb : (Instr.lookup 26 (.map (some Bb)) (.string q) true).run Try.prog w9 = .ok (.tuple #[.bool (hasB S n q), .bool (hasB S n q)]) w9 := by
                        rw [sb9.look q hqs, decide_eq_decide.2 (hmem.out q.data.toList)]; rfl
                      go_wp2_with fail
                      refine (contains_any ao n cap S q _ (by omega) ha9).mono ?_
                      rintro e w10 ⟨rfl, rfl⟩
                      clear la lb ka kb
                      go_wp2_with fail
                      refine (allTrue_any Ba (upTo S n) ao n cap S _ (by omega) sa9 ha9 hS (fun _ h => h)).mono ?_
                      rintro e w10 ⟨rfl, rfl⟩
                      go_wp2_with fail
                      refine (allTrue_any Bb (upTo (rotF S n k i) N) ao n cap S _ (by omega) sb9 ha9 hS (fun x h => (hmem.out x).2 h)).mono ?_
                      rintro e w10 ⟨rfl, rfl⟩
                      go_wp2
                      go_ret
                      exact ⟨rfl, tt.trans (b9.mono tt.size)⟩
        · go_wp2
          go_ret
          exact ⟨rfl, Below.refl _ _⟩
      · go_wp2
        go_ret
        exact ⟨rfl, Below.refl _ _⟩

set_option maxRecDepth 100000 in
set_option maxHeartbeats 2000000 in
theorem ignores_out (pb po : Nat) (ao : Option Addr) (n cap : Nat) (S : Nat → ByteArray) (k it : Int) (q : ByteArray) (w : World) (hp : w.cell? ⟨pb, po, none⟩ = some (.slice ao n cap))
    (hn : n ≤ maxLen) (hq : q.size ≤ maxLen) (ha : StrsIn w ao n S) (hout : k < 0 ∨ (n : Int) < k ∨ (0 < n ∧ (it < 0 ∨ (n : Int) ≤ it))) :
    Calls Try.prog 4 #[.pointer (some ⟨pb, po, none⟩), .int .i64 k, .int .i64 it, .string q] w (True5 w) := by
  have HO := hide hout
  clear hout
  go_enter Try.func4, Try.ntmps4
  go_wp2_with fail
  refine (bytes12 pb po ao n cap S k it q _ hp hn hq ha).mono ?_
  rintro e w1 ⟨r, rfl, rfl, hr⟩
  cases r with
  | false =>
    go_wp2
    go_ret
    exact ⟨rfl, Below.refl _ _⟩
  | true =>
    obtain ⟨hn', hS, hqs⟩ := hr rfl
    go_wp2_with fail
    refine (size_any ao n cap 0 S _ (by omega) (by omega) hn' hS ha).mono ?_
    rintro e w1 ⟨u, r, rfl, rfl, hr⟩
    cases r with
    | false =>
      go_wp2
      go_ret
      exact ⟨rfl, Below.refl _ _⟩
    | true =>
      obtain ⟨hu0, hu1, hn6⟩ := hr rfl
      by_cases g1 : (q.size : Int) ≤ 65536
      · by_cases g2 : u + (q.size : Int) ≤ 1048576
        · by_cases c1 : k < 0
          · go_wp2
            go_ret
            exact ⟨rfl, Below.refl _ _⟩
          · by_cases c2 : (n : Int) < k
            · go_wp2
              go_ret
              exact ⟨rfl, Below.refl _ _⟩
            · have h0 : (0 : Int) < (n : Int) := by have := HO.out; omega
              by_cases c3 : it < 0
              · go_wp2
                go_ret
                exact ⟨rfl, Below.refl _ _⟩
              · have c4 : (n : Int) ≤ it := by have := HO.out; omega
                go_wp2
                go_ret
                exact ⟨rfl, Below.refl _ _⟩
        · go_wp2
          go_ret
          exact ⟨rfl, Below.refl _ _⟩
      · go_wp2
        go_ret
        exact ⟨rfl, Below.refl _ _⟩

theorem ignores (pb po : Nat) (ao : Option Addr) (n cap : Nat) (S : Nat → ByteArray) (k it : Int) (q : ByteArray) (w : World) (hp : w.cell? ⟨pb, po, none⟩ = some (.slice ao n cap)) (hpb : pb < w.heap.size)
    (hn : n ≤ maxLen) (hq : q.size ≤ maxLen) (ha : StrsIn w ao n S) :
    Calls Try.prog 4 #[.pointer (some ⟨pb, po, none⟩), .int .i64 k, .int .i64 it, .string q] w (True5 w) := by
  by_cases hout : k < 0 ∨ (n : Int) < k ∨ (0 < n ∧ (it < 0 ∨ (n : Int) ≤ it))
  · exact ignores_out pb po ao n cap S k it q w hp hn hq ha hout
  · obtain ⟨k', rfl⟩ := Int.eq_ofNat_of_zero_le (show 0 ≤ k by omega)
    exact ignores_in pb po ao n cap S k' it.toNat it q w hp hpb hn hq ha (by omega) (fun h => by omega)
end Go.Proofs.Qxb6621685a
