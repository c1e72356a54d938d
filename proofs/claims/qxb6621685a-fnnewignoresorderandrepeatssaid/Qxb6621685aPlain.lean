import GoSem.Op.String
namespace Go.Proofs.Qxb6621685a

/-! ### The order of strings -/
/-- x is not behind y in the model's own order of bytes. -/
def le (x y : List UInt8) : Prop := Op.bytesLess y x = false

theorem less_cons (a b : UInt8) (x y : List UInt8) : Op.bytesLess (a :: x) (b :: y) = true ↔ a.toNat < b.toNat ∨ (a.toNat = b.toNat ∧ Op.bytesLess x y = true) := by
  simp [Op.bytesLess, UInt8.lt_iff_toNat_lt, ← UInt8.toNat_inj]
theorem le_cons (a b : UInt8) (x y : List UInt8) : le (a :: x) (b :: y) ↔ a.toNat < b.toNat ∨ (a.toNat = b.toNat ∧ le x y) := by
  unfold le
  rw [← Bool.not_eq_true, less_cons, ← Bool.not_eq_true]
  by_cases c : Op.bytesLess y x = true
  · simp [c]; omega
  · simp [c]; omega
theorem le_nil (x : List UInt8) : le [] x := by cases x <;> rfl
theorem not_le_nil (a : UInt8) (x : List UInt8) : ¬ le (a :: x) [] := by simp [le, Op.bytesLess]
theorem le_refl : ∀ x : List UInt8, le x x
  | [] => rfl
  | a :: r => (le_cons a a r r).2 (.inr ⟨rfl, le_refl r⟩)
theorem le_antisymm : ∀ {x y : List UInt8}, le x y → le y x → x = y
  | [], [], _, _ => rfl
  | [], b :: s, _, h' => absurd h' (not_le_nil b s)
  | a :: r, [], h, _ => absurd h (not_le_nil a r)
  | a :: r, b :: s, h, h' => by
    rw [le_cons] at h h'
    have e : a.toNat = b.toNat := by omega
    have h1 : le r s := by rcases h with h | h; omega; exact h.2
    have h2 : le s r := by rcases h' with h | h; omega; exact h.2
    rw [UInt8.toNat_inj.1 e, le_antisymm h1 h2]
theorem le_trans : ∀ {x y z : List UInt8}, le x y → le y z → le x z
  | [], _, z, _, _ => le_nil z
  | a :: r, [], _, h, _ => absurd h (not_le_nil a r)
  | _ :: _, b :: s, [], _, h' => absurd h' (not_le_nil b s)
  | a :: r, b :: s, c :: t, h, h' => by
    rw [le_cons] at h h' ⊢
    rcases h with h | ⟨h, k⟩ <;> rcases h' with h' | ⟨h', k'⟩
    · left; omega
    · left; omega
    · left; omega
    · right; exact ⟨by omega, le_trans k k'⟩
theorem le_of_less : ∀ {x y : List UInt8}, Op.bytesLess x y = true → le x y
  | [], y, _ => le_nil y
  | _ :: _, [], h => by simp [Op.bytesLess] at h
  | a :: r, b :: s, h => by
    rw [less_cons] at h
    rw [le_cons]
    rcases h with h | ⟨h, k⟩
    · exact .inl h
    · exact .inr ⟨h, le_of_less k⟩

/-! ### How many different ones -/
def nd : List (List UInt8) → Nat
  | [] => 0
  | x :: r => if x ∈ r then nd r else nd r + 1

/-- Each once. -/
def once : List (List UInt8) → List (List UInt8)
  | [] => []
  | x :: r => if x ∈ r then once r else x :: once r
theorem mem_once {x : List UInt8} : ∀ {l : List (List UInt8)}, x ∈ once l ↔ x ∈ l
  | [] => Iff.rfl
  | y :: r => by
    unfold once
    split
    · rename_i h
      rw [mem_once, List.mem_cons]
      constructor
      · exact .inr
      · rintro (rfl | h')
        · exact h
        · exact h'
    · rw [List.mem_cons, List.mem_cons, mem_once]
theorem length_once : ∀ l : List (List UInt8), (once l).length = nd l
  | [] => rfl
  | x :: r => by
    unfold once nd
    split <;> simp [length_once r]
theorem nodup_once : ∀ l : List (List UInt8), (once l).Nodup
  | [] => List.nodup_nil
  | x :: r => by
    unfold once
    split
    · exact nodup_once r
    · rename_i h
      exact List.nodup_cons.2 ⟨fun h' => h (mem_once.1 h'), nodup_once r⟩
theorem length_le_of_subset : ∀ {l l' : List (List UInt8)}, l.Nodup → (∀ x ∈ l, x ∈ l') → l.length ≤ l'.length
  | [], _, _, _ => Nat.zero_le _
  | x :: r, l', h, hs => by
    obtain ⟨h1, h2⟩ := List.nodup_cons.1 h
    have hx := hs x (by simp)
    have := length_le_of_subset (l := r) (l' := l'.erase x) h2 (fun y hy => (List.mem_erase_of_ne (fun e : y = x => h1 (e ▸ hy))).2 (hs y (by simp [hy])))
    rw [List.length_erase_of_mem hx] at this
    have := List.length_pos_of_mem hx
    simp
    omega
theorem nd_same {l l' : List (List UInt8)} (h : ∀ x, x ∈ l ↔ x ∈ l') : nd l = nd l' := by
  rw [← length_once, ← length_once]
  exact Nat.le_antisymm (length_le_of_subset (nodup_once l) fun x hx => mem_once.2 ((h x).1 (mem_once.1 hx))) (length_le_of_subset (nodup_once l') fun x hx => mem_once.2 ((h x).2 (mem_once.1 hx)))
theorem nd_snoc (l : List (List UInt8)) (x : List UInt8) : nd (l ++ [x]) = if x ∈ l then nd l else nd l + 1 := by
  rw [nd_same (l' := x :: l) (by simp [or_comm])]
  rfl
theorem nd_le : ∀ l : List (List UInt8), nd l ≤ l.length
  | [] => Nat.le_refl _
  | x :: r => by
    unfold nd
    have := nd_le r
    split <;> simp <;> omega

/-! ### Families: what stands at 0, .., n - 1 -/
def upTo (f : Nat → ByteArray) (n : Nat) : List (List UInt8) := (List.range n).map fun i => (f i).data.toList
theorem mem_upTo {f : Nat → ByteArray} {n : Nat} {x : List UInt8} : x ∈ upTo f n ↔ ∃ i, i < n ∧ (f i).data.toList = x := by simp [upTo]
theorem upTo_succ (f : Nat → ByteArray) (n : Nat) : upTo f (n + 1) = upTo f n ++ [(f n).data.toList] := by simp [upTo, List.range_succ]

/-- The two families hold the same strings. -/
def Same (f g : Nat → ByteArray) (n : Nat) : Prop := (∀ i, i < n → ∃ j, j < n ∧ f i = g j) ∧ ∀ j, j < n → ∃ i, i < n ∧ f i = g j
theorem Same.refl (f : Nat → ByteArray) (n : Nat) : Same f f n := ⟨fun i h => ⟨i, h, rfl⟩, fun i h => ⟨i, h, rfl⟩⟩
theorem Same.trans {f g h : Nat → ByteArray} {n : Nat} (a : Same f g n) (b : Same g h n) : Same f h n := by
  refine ⟨fun i hi => ?_, fun j hj => ?_⟩
  · obtain ⟨j, hj, e⟩ := a.1 i hi
    obtain ⟨k, hk, e'⟩ := b.1 j hj
    exact ⟨k, hk, e.trans e'⟩
  · obtain ⟨k, hk, e⟩ := b.2 j hj
    obtain ⟨i, hi, e'⟩ := a.2 k hk
    exact ⟨i, hi, e'.trans e⟩
theorem Same.nd_eq {f g : Nat → ByteArray} {n : Nat} (h : Same f g n) : nd (upTo f n) = nd (upTo g n) := nd_same fun x => by
  rw [mem_upTo, mem_upTo]
  constructor
  · rintro ⟨i, hi, rfl⟩
    obtain ⟨j, hj, e⟩ := h.1 i hi
    exact ⟨j, hj, by rw [e]⟩
  · rintro ⟨j, hj, rfl⟩
    obtain ⟨i, hi, e⟩ := h.2 j hj
    exact ⟨i, hi, by rw [e]⟩

def lef (f : Nat → ByteArray) (x y : Nat) : Prop := le (f x).data.toList (f y).data.toList

/-- In order from a on, up to b. -/
def Sorted (f : Nat → ByteArray) (a b : Nat) : Prop := ∀ x y, a ≤ x → x ≤ y → y < b → lef f x y

/-- The last loop's count. -/
def runs (f : Nat → ByteArray) : Nat → Nat
  | 0 => 0
  | 1 => 1
  | n + 2 => if (f (n + 1)).data.toList = (f n).data.toList then runs f (n + 1) else runs f (n + 1) + 1
theorem runs_nd {f : Nat → ByteArray} : ∀ n, Sorted f 0 n → runs f n = nd (upTo f n)
  | 0, _ => rfl
  | 1, _ => by simp [runs, upTo, nd]
  | n + 2, h => by
    have ih := runs_nd (n + 1) (fun x y h1 h2 h3 => h x y h1 h2 (by omega))
    have e : runs f (n + 2) = if (f (n + 1)).data.toList = (f n).data.toList then runs f (n + 1) else runs f (n + 1) + 1 := rfl
    rw [upTo_succ, nd_snoc, ← ih, e]
    have key : (f (n + 1)).data.toList = (f n).data.toList ↔ (f (n + 1)).data.toList ∈ upTo f (n + 1) := by
      rw [mem_upTo]
      constructor
      · exact fun e => ⟨n, by omega, e.symm⟩
      · rintro ⟨i, hi, e⟩
        refine le_antisymm ?_ (h n (n + 1) (by omega) (by omega) (by omega))
        rw [← e]
        exact h i n (by omega) (by omega) (by omega)
    simp only [key]

/-! ### The merge -/
/-- b has taken from a the places [lo, i) and [mid, j), in order, into [lo, k). -/
structure Merge (a b : Nat → ByteArray) (lo mid hi i j k : Nat) : Prop where
  h1 : lo ≤ i
  h2 : i ≤ mid
  h3 : mid ≤ j
  h4 : j ≤ hi
  hk : k + mid = i + j
  sound : ∀ x, lo ≤ x → x < k → ∃ y, lo ≤ y ∧ y < hi ∧ b x = a y
  full : ∀ y, (lo ≤ y ∧ y < i) ∨ (mid ≤ y ∧ y < j) → ∃ x, lo ≤ x ∧ x < k ∧ b x = a y
  sorted : Sorted b lo k
  left : ∀ x y, lo ≤ x → x < k → i ≤ y → y < mid → le (b x).data.toList (a y).data.toList
  right : ∀ x y, lo ≤ x → x < k → j ≤ y → y < hi → le (b x).data.toList (a y).data.toList

theorem Merge.start {a b : Nat → ByteArray} {lo mid hi : Nat} (h1 : lo ≤ mid) (h2 : mid ≤ hi) : Merge a b lo mid hi lo mid lo :=
  ⟨Nat.le_refl _, h1, Nat.le_refl _, h2, by omega, fun x a b => by omega, fun y h => by omega, fun x y a b c => by omega, fun x y a b => by omega, fun x y a b => by omega⟩

def put (b : Nat → ByteArray) (k : Nat) (v : ByteArray) (x : Nat) : ByteArray := if x = k then v else b x
theorem put_at (b : Nat → ByteArray) (k : Nat) (v : ByteArray) : put b k v k = v := if_pos rfl
theorem put_off {b : Nat → ByteArray} {k x : Nat} {v : ByteArray} (h : x ≠ k) : put b k v x = b x := if_neg h

theorem Merge.takeLeft {a b : Nat → ByteArray} {lo mid hi i j k : Nat} (m : Merge a b lo mid hi i j k) (hs : Sorted a lo mid) (hi' : i < mid) (hc : ∀ y, j ≤ y → y < hi → lef a i y) : Merge a (put b k (a i)) lo mid hi (i + 1) j (k + 1) := by
  obtain ⟨h1, h2, h3, h4, hk, so, fu, st, lf, rt⟩ := m
  refine ⟨by omega, by omega, h3, h4, by omega, fun x p q => ?_, fun y h => ?_, fun x y p q r => ?_, fun x y p q r s => ?_, fun x y p q r s => ?_⟩
  · by_cases e : x = k
    · subst e; exact ⟨i, h1, by omega, put_at _ _ _⟩
    · rw [put_off e]; exact so x p (by omega)
  · by_cases e : y = i
    · subst e; exact ⟨k, by omega, by omega, put_at _ _ _⟩
    · obtain ⟨x, p, q, r⟩ := fu y (by omega)
      exact ⟨x, p, by omega, by rw [put_off (by omega)]; exact r⟩
  · unfold lef
    by_cases e : y = k
    · subst e
      rw [put_at]
      by_cases e' : x = y
      · subst e'; rw [put_at]; exact le_refl _
      · rw [put_off e']; exact lf x i p (by omega) (Nat.le_refl _) hi'
    · rw [put_off e, put_off (by omega)]; exact st x y p q (by omega)
  · by_cases e : x = k
    · subst e; rw [put_at]; exact hs i y h1 (by omega) s
    · rw [put_off e]; exact lf x y p (by omega) (by omega) s
  · by_cases e : x = k
    · subst e; rw [put_at]; exact hc y r s
    · rw [put_off e]; exact rt x y p (by omega) r s

theorem Merge.takeRight {a b : Nat → ByteArray} {lo mid hi i j k : Nat} (m : Merge a b lo mid hi i j k) (hs : Sorted a mid hi) (hj : j < hi) (hc : ∀ y, i ≤ y → y < mid → lef a j y) : Merge a (put b k (a j)) lo mid hi i (j + 1) (k + 1) := by
  obtain ⟨h1, h2, h3, h4, hk, so, fu, st, lf, rt⟩ := m
  refine ⟨h1, h2, by omega, by omega, by omega, fun x p q => ?_, fun y h => ?_, fun x y p q r => ?_, fun x y p q r s => ?_, fun x y p q r s => ?_⟩
  · by_cases e : x = k
    · subst e; exact ⟨j, by omega, by omega, put_at _ _ _⟩
    · rw [put_off e]; exact so x p (by omega)
  · by_cases e : y = j
    · subst e; exact ⟨k, by omega, by omega, put_at _ _ _⟩
    · obtain ⟨x, p, q, r⟩ := fu y (by omega)
      exact ⟨x, p, by omega, by rw [put_off (by omega)]; exact r⟩
  · unfold lef
    by_cases e : y = k
    · subst e
      rw [put_at]
      by_cases e' : x = y
      · subst e'; rw [put_at]; exact le_refl _
      · rw [put_off e']; exact rt x j p (by omega) (Nat.le_refl _) hj
    · rw [put_off e, put_off (by omega)]; exact st x y p q (by omega)
  · by_cases e : x = k
    · subst e; rw [put_at]; exact hc y r s
    · rw [put_off e]; exact lf x y p (by omega) r s
  · by_cases e : x = k
    · subst e; rw [put_at]; exact hs j y h3 (by omega) s
    · rw [put_off e]; exact rt x y p (by omega) (by omega) s

/-! ### A pass -/
/-- Every stretch of w places, counted from 0, is in order. -/
def Blocks (f : Nat → ByteArray) (n w : Nat) : Prop := ∀ q x y, q * w ≤ x → x ≤ y → y < q * w + w → y < n → lef f x y

theorem Blocks.one (f : Nat → ByteArray) (n : Nat) : Blocks f n 1 := fun q x y h1 h2 h3 _ => by
  have : x = y := by omega
  subst this; exact le_refl _
theorem Blocks.whole {f : Nat → ByteArray} {n w : Nat} (h : Blocks f n w) (hw : n ≤ w) : Sorted f 0 n := fun x y _ h2 h3 => h 0 x y (by omega) h2 (by omega) h3

/-- What a pass has done, up to lo = q * (2 * w). -/
structure Pass (a b : Nat → ByteArray) (n w lo : Nat) : Prop where
  mult : ∃ q, lo = q * (2 * w)
  sound : ∀ x, x < lo → x < n → ∃ y, y < n ∧ b x = a y
  full : ∀ y, y < lo → y < n → ∃ x, x < n ∧ x < lo ∧ b x = a y
  blocks : ∀ q x y, q * (2 * w) + 2 * w ≤ lo → q * (2 * w) ≤ x → x ≤ y → y < q * (2 * w) + 2 * w → y < n → lef b x y

theorem Pass.start (a b : Nat → ByteArray) (n w : Nat) : Pass a b n w 0 :=
  ⟨⟨0, by simp⟩, fun x h => by omega, fun y h => by omega, fun q x y h1 h2 h3 h4 h5 => by omega⟩

theorem Pass.halves {a b : Nat → ByteArray} {n w lo : Nat} (p : Pass a b n w lo) (h : Blocks a n w) : Sorted a lo (min (lo + w) n) ∧ Sorted a (min (lo + w) n) (min (lo + 2 * w) n) := by
  obtain ⟨q, rfl⟩ := p.mult
  have e1 : (2 * q) * w = q * (2 * w) := by rw [Nat.mul_comm 2 q, Nat.mul_assoc]
  have e2 : (2 * q + 1) * w = q * (2 * w) + w := by rw [Nat.add_mul, e1, Nat.one_mul]
  refine ⟨fun x y h1 h2 h3 => h (2 * q) x y (by omega) h2 (by omega) (by omega), fun x y h1 h2 h3 => ?_⟩
  exact h (2 * q + 1) x y (by omega) h2 (by omega) (by omega)

theorem Pass.step {a b b' : Nat → ByteArray} {n w lo : Nat} (p : Pass a b n w lo) (hold : ∀ x, x < lo → b' x = b x)
    (m : Merge a b' lo (min (lo + w) n) (min (lo + 2 * w) n) (min (lo + w) n) (min (lo + 2 * w) n) (min (lo + 2 * w) n)) : Pass a b' n w (lo + 2 * w) := by
  obtain ⟨⟨q, e⟩, so, fu, bl⟩ := p
  have e' : (q + 1) * (2 * w) = q * (2 * w) + 2 * w := by rw [Nat.add_mul, Nat.one_mul]
  refine ⟨⟨q + 1, by omega⟩, fun x h1 h2 => ?_, fun y h1 h2 => ?_, fun q' x y h1 h2 h3 h4 h5 => ?_⟩
  · by_cases hx : x < lo
    · rw [hold x hx]; exact so x hx h2
    · obtain ⟨y, _, hy, r⟩ := m.sound x (by omega) (by omega)
      exact ⟨y, by omega, r⟩
  · by_cases hy : y < lo
    · obtain ⟨x, p, q, r⟩ := fu y hy h2
      exact ⟨x, p, by omega, by rw [hold x q]; exact r⟩
    · obtain ⟨x, p, q, r⟩ := m.full y (by omega)
      exact ⟨x, by omega, by omega, r⟩
  · by_cases hq : q' * (2 * w) + 2 * w ≤ lo
    · unfold lef
      rw [hold x (by omega), hold y (by omega)]
      exact bl q' x y hq h2 h3 h4 h5
    · have hqq : q' = q := by
        rcases Nat.lt_trichotomy q' q with c | c | c
        · have : (q' + 1) * (2 * w) ≤ q * (2 * w) := Nat.mul_le_mul_right _ c
          rw [Nat.add_mul, Nat.one_mul] at this
          omega
        · exact c
        · have : (q + 1) * (2 * w) ≤ q' * (2 * w) := Nat.mul_le_mul_right _ c
          rw [Nat.add_mul, Nat.one_mul] at this
          omega
      subst hqq
      exact m.sorted x y (by omega) h3 (by omega)

theorem Pass.done {a b : Nat → ByteArray} {n w lo : Nat} (p : Pass a b n w lo) (hn : n ≤ lo) : Same b a n ∧ Blocks b n (2 * w) := by
  obtain ⟨⟨q, e⟩, so, fu, bl⟩ := p
  refine ⟨⟨fun i hi => so i (by omega) hi, fun j hj => ?_⟩, fun q' x y h1 h2 h3 h4 => ?_⟩
  · obtain ⟨x, p, _, r⟩ := fu j (by omega) hj
    exact ⟨x, p, r⟩
  · refine bl q' x y ?_ h1 h2 h3 h4
    rcases Nat.lt_or_ge q' q with c | c
    · have : (q' + 1) * (2 * w) ≤ q * (2 * w) := Nat.mul_le_mul_right _ c
      rw [Nat.add_mul, Nat.one_mul] at this
      omega
    · have : q * (2 * w) ≤ q' * (2 * w) := Nat.mul_le_mul_right _ c
      omega
end Go.Proofs.Qxb6621685a
