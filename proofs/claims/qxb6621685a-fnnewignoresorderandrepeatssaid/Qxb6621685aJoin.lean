import Derived.Test.Qxb6621685aAllTrue
import Derived.ArgAppend
import Derived.BigRegion
namespace Go.Proofs.Qxb6621685a
open Go.RowKit Go.Maps Go.WideMaps

/-- append(xs, s) where there is room. -/
theorem append_one {W : World} {G C k : Nat} {F : Nat → ByteArray} (ty : TypeId) (h : W.rowIs G 9 C (strV F)) (hk : k < C) (nb : Nat) (s : ByteArray) (hs : W.cell? ⟨nb, 0, none⟩ = some (.string s)) :
    (Builtin.append_ #[22, 22] ty #[.slice (some ⟨G, 0, none⟩) k C, .slice (some ⟨nb, 0, none⟩) 1 1]).run Try.prog W = .ok (.slice (some ⟨G, 0, none⟩) (k + 1) C) (W.setCell ⟨G, k, none⟩ (.string s)) := by
  obtain ⟨i, hi, hz0, hz1, hz2⟩ := info_parts Try.info9
  have hr := run_append_room_cells (P := Try.prog) W 22 ty 9 i Try.underlying22 hi G 0 k C ⟨nb, 0, none⟩ 1 1 [.string s] (by rw [hz1]; rfl) (fun j u hj => by
    match j, hj with
    | 0, hj => simp at hj; subst hj; simpa [Addr.add] using hs) (fun u hu => by simp at hu; subst hu; rfl) (by omega)
    (fun j hj => by
      have : j = 0 := by simpa using hj
      subst this
      rw [hz1, show 0 + k * 1 + 0 = k by omega, h.cell hk]; rfl)
    (fun j hj => by
      have : j = 0 := by simpa using hj
      subst this
      rw [hz1, show 0 + k * 1 + 0 = k by omega, h.frozen k])
  rw [hr, hz1, show 0 + k * 1 = k by omega]
  rfl

theorem make_strs (n : Nat) (hn : n ≤ 1048576) (w : World) :
    (Instr.makeSlice 22 (.int .i64 0) (.int .i64 (n : Int))).run Try.prog w = .ok (.slice (some ⟨w.heap.size, 0, none⟩) 0 n) (w.alloc (.cells (madeCells #[.string ByteArray.empty] n) 9)) := by
  obtain ⟨i, hi, hz0, hz1, hz2⟩ := info_parts Try.info9
  have hr := run_make (P := Try.prog) w 22 9 i _ Try.underlying22 hi hz0 .i64 .i64 0 n (by omega) (by omega) (by rw [hz2]; omega) (by omega)
  rw [hr, hz1]
  simp [Value.cells]

/-- The two arguments, boxed. -/
structure Env (B : Nat) (w : World) (ao : Option Addr) (n cap : Nat) (bo : Option Addr) (m cap' : Nat) (wr : World) : Prop where
  ca : wr.cell? ⟨B, 0, none⟩ = some (.slice ao n cap)
  cb : wr.cell? ⟨B + 1, 0, none⟩ = some (.slice bo m cap')
  bel : Below B w wr
  sz : B + 2 ≤ wr.heap.size

theorem Env.go {B : Nat} {w : World} {ao : Option Addr} {n cap : Nat} {bo : Option Addr} {m cap' : Nat} {wr wr' : World} (h : Env B w ao n cap bo m cap' wr) (hb : Below (B + 2) wr wr') : Env B w ao n cap bo m cap' wr' :=
  ⟨(hb.cell (show B < B + 2 by omega)).trans h.ca, (hb.cell (show B + 1 < B + 2 by omega)).trans h.cb, h.bel.trans (hb.mono (by omega)), Nat.le_trans h.sz hb.size⟩

/-- The joined list while it is filled: its row, its variable. -/
structure Jn (G V k C : Nat) (J : Nat → ByteArray) (wr : World) : Prop where
  hk : k ≤ C
  row : ∃ F, wr.rowIs G 9 C (strV F) ∧ ∀ i, i < k → F i = J i
  var : wr.rowIs V 22 1 (fun _ => .slice (some ⟨G, 0, none⟩) k C)
  ne : G ≠ V

theorem Jn.go {G V k C : Nat} {J : Nat → ByteArray} {wr wr' : World} (h : Jn G V k C J wr) (hb : Below wr.heap.size wr wr') : Jn G V k C J wr' := by
  obtain ⟨F, hr, hF⟩ := h.row
  exact ⟨h.hk, ⟨F, row_later hr hb, hF⟩, row_later h.var hb, h.ne⟩

theorem Jn.strs {G V k C : Nat} {J : Nat → ByteArray} {wr : World} (h : Jn G V k C J wr) : StrsIn wr (some ⟨G, 0, none⟩) k J := fun _ => by
  obtain ⟨F, hr, hF⟩ := h.row
  refine ⟨G, 0, rfl, hr.lt, fun i hi => ?_⟩
  rw [Nat.zero_add, hr.cell (show i < C by have := h.hk; omega)]
  unfold strV
  rw [hF i hi]

/-- One more: behind the box, the append and the store into the variable. -/
theorem Jn.step {G V k C : Nat} {J : Nat → ByteArray} {wr : World} (h : Jn G V k C J wr) (hk : k < C) (o : Obj) :
    Jn G V (k + 1) C J ((((wr.alloc o).setCell ⟨G, k, none⟩ (.string (J k))).setCell ⟨V, 0, none⟩ (.slice (some ⟨G, 0, none⟩) (k + 1) C)).drew) := by
  obtain ⟨F, hr, hF⟩ := h.row
  refine ⟨hk, ⟨put F k (J k), ?_, fun i hi => ?_⟩, ?_, h.ne⟩
  · exact (row_put (hr.alloc o)).setOther h.ne _
  · by_cases e : i = k
    · subst e; exact put_at _ _ _
    · rw [put_off e]; exact hF i (by omega)
  · exact (((h.var.alloc o).setOther h.ne.symm _).set 0 _).congr fun i hi => by
      have : i = 0 := by omega
      subst this; rfl

def joinF (S R : Nat → ByteArray) (n i : Nat) : ByteArray := if i < n then S i else R (i - n)

theorem Jn.start (w1 : World) (C : Nat) (J : Nat → ByteArray) : Jn w1.heap.size (w1.heap.size + 1) 0 C J ((w1.alloc (.cells (madeCells #[.string ByteArray.empty] C) 9)).alloc (.cells #[.slice (some ⟨w1.heap.size, 0, none⟩) 0 C] 22)) := by
  refine ⟨Nat.zero_le _, ⟨fun _ => ByteArray.empty, (World.rowIs_made w1 (.string ByteArray.empty) C 9).alloc _, fun i hi => by omega⟩, ?_, by omega⟩
  have h := World.rowIs_alloc (w1.alloc (.cells (madeCells #[.string ByteArray.empty] C) 9)) #[.slice (some ⟨w1.heap.size, 0, none⟩) 0 C] 22 (fun _ => .slice (some ⟨w1.heap.size, 0, none⟩) 0 C) (fun i hi => by match i, hi with | 0, _ => rfl)
  rwa [World.size_alloc] at h

theorem Jn.app {G V k C : Nat} {J : Nat → ByteArray} {wr : World} {ty : TypeId} (h : Jn G V k C J wr) (hk : k < C) (s : ByteArray) :
    (Builtin.append_ #[22, 22] ty #[.slice (some ⟨G, 0, none⟩) k C, .slice (some ⟨wr.heap.size, 0, none⟩) 1 1]).run Try.prog (wr.alloc (.cells #[.string s] 9)).drew = .ok (.slice (some ⟨G, 0, none⟩) (k + 1) C) ((wr.alloc (.cells #[.string s] 9)).setCell ⟨G, k, none⟩ (.string s)).drew := by
  obtain ⟨F, hr, _⟩ := h.row
  exact append_one ty (hr.alloc (.cells #[.string s] 9)).drew hk wr.heap.size s ((World.rowIs_alloc wr #[.string s] 9 (fun _ => .string s) (fun i hi => by match i, hi with | 0, _ => rfl)).drew.cell (by simp))

theorem join_right (S R : Nat → ByteArray) (n i : Nat) : joinF S R n (n + i) = R i := by
  unfold joinF
  rw [if_neg (by omega), Nat.add_sub_cancel_left]

theorem has_join (S R : Nat → ByteArray) (n m : Nat) (q : ByteArray) : hasB (joinF S R n) (n + m) q = (hasB S n q || hasB R m q) := by
  unfold hasB
  rw [← Bool.decide_or]
  refine decide_eq_decide.2 ?_
  rw [mem_upTo, mem_upTo, mem_upTo]
  constructor
  · rintro ⟨i, hi, e⟩
    by_cases h : i < n
    · exact .inl ⟨i, h, by rwa [show joinF S R n i = S i from if_pos h] at e⟩
    · exact .inr ⟨i - n, by omega, by rwa [show joinF S R n i = R (i - n) from if_neg h] at e⟩
  · rintro (⟨i, hi, e⟩ | ⟨i, hi, e⟩)
    · exact ⟨i, by omega, by rwa [show joinF S R n i = S i from if_pos hi]⟩
    · exact ⟨n + i, by omega, by rwa [join_right]⟩

def True5 (w : World) (e : Ending) (w' : World) : Prop := e = .returned (.bool true) ∧ Below w.heap.size w w'

set_option maxRecDepth 100000 in
set_option maxHeartbeats 2000000 in
theorem join (ao : Option Addr) (n cap : Nat) (S : Nat → ByteArray) (bo : Option Addr) (m cap' : Nat) (R : Nat → ByteArray) (q : ByteArray) (w : World) (hn : n ≤ maxLen) (hm : m ≤ maxLen) (hq : q.size ≤ maxLen) (ha : StrsIn w ao n S) (hb : StrsIn w bo m R) :
    Calls Try.prog 3 #[.slice ao n cap, .slice bo m cap', .string q] w (True5 w) := by
  have HN : Hid (n ≤ maxLen ∧ m ≤ maxLen ∧ q.size ≤ maxLen) := ⟨hn, hm, hq⟩
  clear hn hm hq
  have henv : Env w.heap.size w ao n cap bo m cap' ((w.alloc (.cells #[.slice ao n cap] 22)).alloc (.cells #[.slice bo m cap'] 22)) := by
    have b1 := (Below.refl w.heap.size w).alloc (Nat.le_refl _) (.cells #[.slice ao n cap] 22)
    refine ⟨?_, ?_, b1.alloc (by simp) _, by simp⟩
    · have h1 := (World.rowIs_alloc w #[.slice ao n cap] 22 (fun _ => .slice ao n cap) (fun i hi => by match i, hi with | 0, _ => rfl)).alloc (.cells #[.slice bo m cap'] 22)
      exact h1.cell (by simp)
    · have h1 := World.rowIs_alloc (w.alloc (.cells #[.slice ao n cap] 22)) #[.slice bo m cap'] 22 (fun _ => .slice bo m cap') (fun i hi => by match i, hi with | 0, _ => rfl)
      have h2 := h1.cell (i := 0) (by simp)
      rwa [World.size_alloc] at h2
  go_enter Try.func3, Try.ntmps3
  go_wp2_with fail
  generalize (w.alloc (.cells #[.slice ao n cap] 22)).alloc (.cells #[.slice bo m cap'] 22) = w1 at henv ⊢
  have ha1 : StrsIn w1 ao n S := ha.later henv.bel
  have hb1 : StrsIn w1 bo m R := hb.later henv.bel
  refine (bytes5 ao n cap S bo m cap' R q _ HN.out.1 HN.out.2.1 HN.out.2.2 ha1 hb1).mono ?_
  rintro e w1 ⟨r, rfl, rfl, hr⟩
  cases r with
  | false =>
    go_wp2
    go_ret
    exact ⟨rfl, henv.bel⟩
  | true =>
    obtain ⟨hn, hm, hS, hR, hqs⟩ := hr rfl
    have c3 := henv.ca
    have c4 := henv.cb
    go_wp2_with fail
    refine (size_any ao n cap 0 S _ (by omega) (by omega) hn hS ha1).mono ?_
    rintro e w1 ⟨u, r, rfl, rfl, hr⟩
    cases r with
    | false =>
      go_wp2
      go_ret
      exact ⟨rfl, henv.bel⟩
    | true =>
      obtain ⟨hu0, hu1, hn6⟩ := hr rfl
      go_wp2_with fail
      refine (size_any bo m cap' u R _ hu0 hu1 hm hR hb1).mono ?_
      rintro e w1 ⟨u2, r, rfl, rfl, hr⟩
      cases r with
      | false =>
        go_wp2
        go_ret
        exact ⟨rfl, henv.bel⟩
      | true =>
        obtain ⟨hv0, hv1, hm6⟩ := hr rfl
        have hqi : (q.size : Int) ≤ 1048576 := by omega
        by_cases g1 : (q.size : Int) ≤ 65536
        · by_cases g2 : u2 + (q.size : Int) ≤ 1048576
          · have hmk := make_strs (n + m) (by omega)
            simp only [Int.natCast_add] at hmk
            go_wp2
            go_loopw [10] (fun j wr => ∃ k : Nat, k ≤ n ∧ j = .int .i64 k ∧ Jn w1.heap.size (w1.heap.size + 1) k (n + m) (joinF S R n) wr ∧ Below w1.heap.size w1 wr) (fun j _ => n - (intOf j).toNat)
            case atStart => exact ⟨0, Nat.zero_le _, rfl, Jn.start w1 (n + m) _, ((Below.refl _ _).alloc (Nat.le_refl _) _).alloc (by simp) _⟩
            case round =>
              obtain ⟨k, hk, rfl, hj, hbel⟩ := hrel
              have henv2 := henv.go (hbel.mono henv.sz)
              have c3r := henv2.ca
              have vr : wr.cell? ⟨w1.heap.size + 1, 0, none⟩ = some (.slice (some ⟨w1.heap.size, 0, none⟩) k (n + m)) := hj.var.cell (by omega)
              by_cases hlt : k < n
              · obtain ⟨b, off, rfl, hb, hc⟩ := ha1 (by omega)
                have hcell : wr.cell? ⟨b, off + k, none⟩ = some (.string (S k)) := (hbel.cell hb).trans (hc k hlt)
                obtain ⟨F, hF, _⟩ := hj.row
                have hroom : k + 1 ≤ n + m := by omega
                have va : (wr.alloc (.cells #[.string (S k)] 9)).cell? ⟨w1.heap.size + 1, 0, none⟩ = some (.slice (some ⟨w1.heap.size, 0, none⟩) k (n + m)) := (hj.var.alloc _).cell (by omega)
                have ga : (wr.alloc (.cells #[.string (S k)] 9)).cell? ⟨w1.heap.size, k, none⟩ = some (.string (F k)) := (hF.alloc _).cell (by omega)
                have gf : (wr.alloc (.cells #[.string (S k)] 9)).frozen? ⟨w1.heap.size, k, none⟩ = false := (hF.alloc _).frozen k
                have vf : (wr.alloc (.cells #[.string (S k)] 9)).frozen? ⟨w1.heap.size + 1, 0, none⟩ = false := (hj.var.alloc _).frozen 0
                clear hc
                go_wp2
                go_region
                go_wp2
                go_roundw
                case rel =>
                  have hst := hj.step (show k < n + m by omega) (.cells #[.string (S k)] 9)
                  rw [show joinF S R n k = S k from if_pos hlt] at hst
                  exact ⟨k + 1, by omega, by go_num, hst, (((hbel.alloc hbel.size _).setCell (Nat.le_refl _) _).setCell (by simp) _).drew⟩
                case measure => simp [intOf]; omega
              · have hkn : n = k := by omega
                subst hkn
                go_wp2
                go_loopw [11] (fun j wr => ∃ k : Nat, k ≤ m ∧ j = .int .i64 k ∧ Jn w1.heap.size (w1.heap.size + 1) (n + k) (n + m) (joinF S R n) wr ∧ Below w1.heap.size w1 wr) (fun j _ => m - (intOf j).toNat)
                case atStart => exact ⟨0, Nat.zero_le _, rfl, hj, hbel⟩
                case round =>
                  clear hj hbel c3r vr henv2
                  obtain ⟨k, hk, rfl, hj, hbel⟩ := hrel
                  have henv2 := henv.go (hbel.mono henv.sz)
                  have c4r := henv2.cb
                  have c3r := henv2.ca
                  have vr : wr.cell? ⟨w1.heap.size + 1, 0, none⟩ = some (.slice (some ⟨w1.heap.size, 0, none⟩) (n + k) (n + m)) := hj.var.cell (by omega)
                  by_cases hlt : k < m
                  · obtain ⟨b, off, rfl, hb, hc⟩ := hb1 (by omega)
                    have hcell : wr.cell? ⟨b, off + k, none⟩ = some (.string (R k)) := (hbel.cell hb).trans (hc k hlt)
                    obtain ⟨F, hF, _⟩ := hj.row
                    have hroom : n + k + 1 ≤ n + m := by omega
                    have va : (wr.alloc (.cells #[.string (R k)] 9)).cell? ⟨w1.heap.size + 1, 0, none⟩ = some (.slice (some ⟨w1.heap.size, 0, none⟩) (n + k) (n + m)) := (hj.var.alloc _).cell (by omega)
                    have ga : (wr.alloc (.cells #[.string (R k)] 9)).cell? ⟨w1.heap.size, n + k, none⟩ = some (.string (F (n + k))) := (hF.alloc _).cell (by omega)
                    have gf : (wr.alloc (.cells #[.string (R k)] 9)).frozen? ⟨w1.heap.size, n + k, none⟩ = false := (hF.alloc _).frozen (n + k)
                    have vf : (wr.alloc (.cells #[.string (R k)] 9)).frozen? ⟨w1.heap.size + 1, 0, none⟩ = false := (hj.var.alloc _).frozen 0
                    clear hc
                    go_wp2
                    go_region
                    go_wp2
                    go_roundw
                    case rel =>
                      have hst := hj.step (show n + k < n + m by omega) (.cells #[.string (R k)] 9)
                      rw [join_right] at hst
                      exact ⟨k + 1, by omega, by go_num, hst, (((hbel.alloc hbel.size _).setCell (Nat.le_refl _) _).setCell (by simp) _).drew⟩
                    case measure => simp [intOf]; omega
                  · have hkm : m = k := by omega
                    subst hkm
                    clear hmk hlt hk
                    have hJs : Short (joinF S R n) (n + m) := fun i hi => by
                      unfold joinF; split
                      · exact hS i (by omega)
                      · exact hR _ (by omega)
                    have HJ : Hid (hasB (joinF S R n) (n + m) q = (hasB S n q || hasB R m q)) := has_join S R n m q
                    have ha2 := ha1.later (hbel.mono (Nat.le_refl _))
                    have hb2 := hb1.later (hbel.mono (Nat.le_refl _))
                    have hvlt := hj.var.lt
                    have hnil := fun (w : World) (r : Option Nat) => run_eql_map_nil (P := Try.prog) w 26 9 4 r Try.underlying26
                    go_wp2_with fail
                    refine (new_any (w1.heap.size + 1) 0 (some ⟨w1.heap.size, 0, none⟩) (n + m) (n + m) (joinF S R n) _ (by omega) vr hvlt hj.strs hJs).mono ?_
                    rintro e w4 ⟨Bj, rfl, b4, hBj, sj⟩
                    go_wp2_with fail
                    refine (allowed_any (some Bj) _).mono ?_
                    rintro e w5 ⟨rfl, b5⟩
                    have t5 : Below wr.heap.size wr w5 := b4.trans (b5.mono b4.size)
                    have sj5 := sj.later b5
                    have e5 := henv2.go (t5.mono henv2.sz)
                    have c5 := e5.ca
                    clear b4 b5 sj
                    go_wp2_with fail
                    refine (new_any w.heap.size 0 ao n cap S _ (by omega) c5 (by have := e5.sz; omega) (ha2.later t5) hS).mono ?_
                    rintro e w6 ⟨Ba, rfl, b6, hBa, sa⟩
                    go_wp2_with fail
                    refine (allowed_any (some Ba) _).mono ?_
                    rintro e w7 ⟨rfl, b7⟩
                    have u7 : Below w5.heap.size w5 w7 := b6.trans (b7.mono b6.size)
                    have t7 : Below wr.heap.size wr w7 := t5.trans (u7.mono t5.size)
                    have sj7 := sj5.later u7
                    have sa7 := sa.later b7
                    have e7 := henv2.go (t7.mono henv2.sz)
                    have c7 := e7.cb
                    clear b6 b7 sa sj5 t5 e5 c5 u7
                    go_wp2_with fail
                    refine (new_any (w.heap.size + 1) 0 bo m cap' R _ (by omega) c7 (by have := e7.sz; omega) (hb2.later t7) hR).mono ?_
                    rintro e w8 ⟨Bb, rfl, b8, hBb, sb⟩
                    go_wp2_with fail
                    refine (allowed_any (some Bb) _).mono ?_
                    rintro e w9 ⟨rfl, b9⟩
                    have u9 : Below w7.heap.size w7 w9 := b8.trans (b9.mono b8.size)
                    have t9 : Below wr.heap.size wr w9 := t7.trans (u9.mono t7.size)
                    have sj9 := sj7.later u9
                    have sa9 := sa7.later u9
                    have sb9 := sb.later b9
                    have e9 := henv2.go (t9.mono henv2.sz)
                    have j9 := hj.go t9
                    have ha9 := ha2.later t9
                    have hb9 := hb2.later t9
                    clear b8 b9 sb sj7 sa7 t7 e7 c7 u9 hj ha2 hb2 vr c3r c4r hvlt
                    have lj : (Instr.lookup 26 (.map (some Bj)) (.string q) true).run Try.prog w9 = .ok (.tuple #[.bool (hasB (joinF S R n) (n + m) q), .bool (hasB (joinF S R n) (n + m) q)]) w9 := sj9.look q hqs
                    have la : (Instr.lookup 26 (.map (some Ba)) (.string q) true).run Try.prog w9 = .ok (.tuple #[.bool (hasB S n q), .bool (hasB S n q)]) w9 := sa9.look q hqs
                    have lb : (Instr.lookup 26 (.map (some Bb)) (.string q) true).run Try.prog w9 = .ok (.tuple #[.bool (hasB R m q), .bool (hasB R m q)]) w9 := sb9.look q hqs
                    go_upto_region 28 with fail
                    go_cut [15, 16, 17, 18, 19, 20, 122] (fun s15 s16 s17 s18 s19 s20 s wq => s15 = .bool (hasB (joinF S R n) (n + m) q) ∧ s16 = .bool (hasB (joinF S R n) (n + m) q) ∧ s17 = .bool (hasB S n q) ∧ s18 = .bool (hasB S n q) ∧ s19 = .bool (hasB R m q) ∧ s20 = .bool (hasB R m q) ∧ s = .bool false ∧ w9 = wq)
                    case first =>
                      have hjx := HJ.out
                      cases hA : hasB S n q <;> cases hB : hasB R m q
                      all_goals
                        rw [hA, hB] at hjx
                        go_wp2
                        go_meet
                        case rel => exact ⟨by rw [hjx], by rw [hjx], by rw [hA], by rw [hA], by rw [hB], by rw [hB], rfl, rfl⟩
                    case rest =>
                      obtain ⟨rfl, rfl, rfl, rfl, rfl, rfl, rfl, rfl⟩ := hcut
                      have x3 := e9.ca
                      have x4 := e9.cb
                      have x9 : w9.cell? ⟨w1.heap.size + 1, 0, none⟩ = some (.slice (some ⟨w1.heap.size, 0, none⟩) (n + m) (n + m)) := j9.var.cell (by omega)
                      clear lj la lb hnil
                      go_wp2_with fail
                      refine (contains_any (some ⟨w1.heap.size, 0, none⟩) (n + m) (n + m) (joinF S R n) q _ (by omega) j9.strs).mono ?_
                      rintro e w10 ⟨rfl, rfl⟩
                      go_wp2_with fail
                      refine (contains_any ao n cap S q _ (by omega) ha9).mono ?_
                      rintro e w10 ⟨rfl, rfl⟩
                      go_wp2_with fail
                      refine (contains_any bo m cap' R q _ (by omega) hb9).mono ?_
                      rintro e w10 ⟨rfl, rfl⟩
                      go_wp2_with fail
                      refine (allTrue_any Ba (upTo S n) ao n cap S _ (by omega) sa9 ha9 hS (fun _ h => h)).mono ?_
                      rintro e w10 ⟨rfl, rfl⟩
                      go_wp2_with fail
                      refine (allTrue_any Bb (upTo R m) bo m cap' R _ (by omega) sb9 hb9 hR (fun _ h => h)).mono ?_
                      rintro e w10 ⟨rfl, rfl⟩
                      go_wp2_with fail
                      refine (allTrue_any Bj (upTo (joinF S R n) (n + m)) (some ⟨w1.heap.size, 0, none⟩) (n + m) (n + m) (joinF S R n) _ (by omega) sj9 j9.strs hJs (fun _ h => h)).mono ?_
                      rintro e w10 ⟨rfl, rfl⟩
                      have ea := fun ty => sa9.len ty
                      go_wp2_with fail
                      refine (distinct_any ao n cap S _ (by omega) ha9).mono ?_
                      rintro e w11 ⟨rfl, b11⟩
                      have sb11 := sb9.later b11
                      have sj11 := sj9.later b11
                      have e11 := e9.go (b11.mono e9.sz)
                      have j11 := j9.go b11
                      have y4 := e11.cb
                      have eb := fun ty => sb11.len ty
                      clear ea x3 x4 x9
                      go_wp2_with fail
                      refine (distinct_any bo m cap' R _ (by omega) (hb9.later b11)).mono ?_
                      rintro e w12 ⟨rfl, b12⟩
                      have sj12 := sj11.later b12
                      have e12 := e11.go (b12.mono e11.sz)
                      have j12 := j11.go b12
                      have z9 : w12.cell? ⟨w1.heap.size + 1, 0, none⟩ = some (.slice (some ⟨w1.heap.size, 0, none⟩) (n + m) (n + m)) := j12.var.cell (by omega)
                      have ej := fun ty => sj12.len ty
                      clear eb y4
                      go_wp2_with fail
                      refine (distinct_any (some ⟨w1.heap.size, 0, none⟩) (n + m) (n + m) (joinF S R n) _ (by omega) j12.strs).mono ?_
                      rintro e w13 ⟨rfl, b13⟩
                      clear ej
                      go_wp2
                      go_ret
                      exact ⟨rfl, e12.bel.trans (b13.mono e12.bel.size)⟩
          · go_wp2
            go_ret
            exact ⟨rfl, henv.bel⟩
        · go_wp2
          go_ret
          exact ⟨rfl, henv.bel⟩
end Go.Proofs.Qxb6621685a
