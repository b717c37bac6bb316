import Derived.Test.YthegckcffmlanaaDoorCode
import Derived.Test.YthegckcffmlanaaDoorSpecCell
namespace Go.Proofs.YthegckcffmlanaaDoor.Plain
open Go.RowKit Go.Lib Go.Proofs.YthegckcffmlanaaDoorW.PrintWords

/-! ### spec.Cell as a function of the text's bytes -/
def rowL (v : Int) (ok : Bool) : Int → List Int → Int × Int × Bool × Bool
  | row, [] => if ok = true then (if row < 1 then (0, 0, false, true) else if 1048576 < row then (0, 0, false, true) else (v, row, true, true)) else (0, 0, false, true)
  | row, c :: cs => if c < 48 ∨ 57 < c then (0, 0, false, true) else rowL v ok (if row ≤ 1048576 then 10 * row + (c - 48) else row) cs
def nd (c : Int) : Bool := !decide (48 ≤ c ∧ c ≤ 57) && !decide (c = 36)
def isDig (o : Option Int) : Bool := match o with | some c => decide (48 ≤ c ∧ c ≤ 57) | none => false
def flagB (T D : List Int) : Bool := !T.isEmpty && decide (D.head? = some 36) && isDig D.tail.head?
def flagA (L : List Int) : Bool := decide (L.head? = some 36)
def cellEnd (v : Int) (ok : Bool) (dol : Int) (D : List Int) : Int × Int × Bool × Bool :=
  if 0 < dol ∨ D.head? = some 48 then (0, 0, false, false) else rowL v ok 0 D
def cellMid (L1 : List Int) (dol : Int) : Int × Int × Bool × Bool :=
  cellEnd (if okL 0 (L1.takeWhile nd) then val 0 (L1.takeWhile nd) else 0) (okL 0 (L1.takeWhile nd) && decide (0 < val 0 (L1.takeWhile nd)))
    (dol - (flagB (L1.takeWhile nd) (L1.dropWhile nd)).toNat) ((L1.dropWhile nd).drop (flagB (L1.takeWhile nd) (L1.dropWhile nd)).toNat)
def cellV (L : List Int) : Int × Int × Bool × Bool :=
  if (43 : Int) ∈ L then (0, 0, false, false) else cellMid (L.drop (flagA L).toNat) ((L.count 36 : Nat) - (flagA L).toNat)

theorem cell_l2 (s : ByteArray) (hs : s.size ≤ 40) (v : Int) (ok : Bool) (d : Nat) : ∀ (k i : Nat) (row : Int), i + d = s.size → 2 * d < k → 0 ≤ row → row ≤ 10485769 →
    Spec.spec_Cell.l2 k s v row ok i = some (rowL v ok row ((nm8 s).drop i)) := by
  induction d with
  | zero =>
    intro k i row hi hk h0 h1
    obtain ⟨k, rfl⟩ : ∃ m, k = m + 1 := ⟨k - 1, by omega⟩
    have e : (nm8 s).drop i = [] := List.drop_eq_nil_of_le (by rw [nm8_len]; omega)
    simp only [Spec.spec_Cell.l2]
    rw [if_neg (by omega), e]
    unfold rowL
    cases ok with
    | true =>
      rw [if_pos rfl, if_pos rfl]
      by_cases c1 : row < 1
      · rw [if_pos c1, if_pos c1]
      · rw [if_neg c1, if_neg c1]
        by_cases c2 : 1048576 < row
        · rw [if_pos c2, if_pos c2]
        · rw [if_neg c2, if_neg c2]
    | false => rw [if_neg (by decide), if_neg (by decide)]
  | succ d ih =>
    intro k i row hi hk h0 h1
    obtain ⟨k, rfl⟩ : ∃ m, k = m + 2 := ⟨k - 2, by omega⟩
    have hb := bt_range s i
    have e1 : wrap64 ((i : Int) + 1) = ((i + 1 : Nat) : Int) := by rw [w64 (by omega) (by omega)]; omega
    have j9t : Spec.spec_Cell.j9 (k + 1) s v row ok i true = some (0, 0, false, true) := by simp only [Spec.spec_Cell.j9, if_true]
    have j9f : 48 ≤ bt s i → bt s i ≤ 57 → Spec.spec_Cell.j9 (k + 1) s v row ok i false = some (rowL v ok (if row ≤ 1048576 then 10 * row + (bt s i - 48) else row) ((nm8 s).drop (i + 1))) := by
      intro g0 g1
      simp only [Spec.spec_Cell.j9]
      rw [if_neg (by decide)]
      by_cases c : row ≤ 1048576
      · rw [if_pos c, if_pos c, if_pos (by omega), if_pos (by omega), e1, w64 (n := 10 * row) (by omega) (by omega), w64 (by omega) (by omega)]
        have e5 : (bt s i - 48) % 256 = bt s i - 48 := by omega
        rw [e5]
        exact ih k (i + 1) _ (by omega) (by omega) (by omega) (by omega)
      · rw [if_neg c, if_neg c, e1]
        exact ih k (i + 1) _ (by omega) (by omega) (by omega) (by omega)
    simp only [Spec.spec_Cell.l2]
    rw [if_pos (by omega), if_pos (by omega), drop_cons s i (by omega)]
    unfold rowL
    by_cases c1 : bt s i < 48
    · rw [if_pos c1, j9t, if_pos (Or.inl c1)]
    · rw [if_neg c1]
      by_cases c2 : 57 < bt s i
      · rw [decide_eq_true (show bt s i > 57 from c2), j9t, if_pos (Or.inr c2)]
      · rw [decide_eq_false (show ¬ bt s i > 57 from c2), j9f (by omega) (by omega), if_neg (show ¬ (bt s i < 48 ∨ 57 < bt s i) by omega)]
theorem head_at (s : ByteArray) (i : Nat) (h : i < s.size) : ((nm8 s).drop i).head? = some (bt s i) := by rw [drop_cons s i h]; rfl
theorem head_end (s : ByteArray) (i : Nat) (h : s.size ≤ i) : ((nm8 s).drop i).head? = none := by
  rw [List.drop_eq_nil_of_le (by rw [nm8_len]; omega)]; rfl
theorem cell_j6 (s : ByteArray) (hs : s.size ≤ 40) (v : Int) (ok : Bool) (dol : Int) (i k : Nat) (hi : i ≤ s.size) (hk : 2 * s.size + 3 < k) :
    Spec.spec_Cell.j6 k s v 0 dol i ok = some (cellEnd v ok dol ((nm8 s).drop i)) := by
  obtain ⟨k, rfl⟩ : ∃ m, k = m + 2 := ⟨k - 2, by omega⟩
  have j7t : Spec.spec_Cell.j7 (k + 1) s v 0 i ok true = some (0, 0, false, false) := by simp only [Spec.spec_Cell.j7, if_true]
  have j7f : Spec.spec_Cell.j7 (k + 1) s v 0 i ok false = some (rowL v ok 0 ((nm8 s).drop i)) := by
    simp only [Spec.spec_Cell.j7]
    rw [if_neg (by decide)]
    exact cell_l2 s hs v ok (s.size - i) k i 0 (by omega) (by omega) (by omega) (by omega)
  simp only [Spec.spec_Cell.j6]
  unfold cellEnd
  by_cases c : dol > 0
  · rw [if_pos c, j7t, if_pos (Or.inl c)]
  · rw [if_neg c]
    by_cases c2 : i < s.size
    · rw [if_pos (by omega), if_pos (by omega), head_at s i c2]
      by_cases c3 : bt s i = 48
      · have e : (bt s i == 48) = true := by simpa using c3
        rw [e, j7t, if_pos (Or.inr (by rw [c3]))]
      · have e : (bt s i == 48) = false := by simpa using c3
        rw [e, j7f, if_neg]
        rintro (h | h)
        · exact c h
        · exact c3 (Option.some.inj h)
    · rw [if_neg (by omega), j7f, if_neg]
      rintro (h | h)
      · exact c h
      · rw [head_end s i (by omega)] at h; cases h
theorem cell_j5 (s : ByteArray) (hs : s.size ≤ 40) (v : Int) (ok b : Bool) (dol : Int) (hd0 : -2 ≤ dol) (hd : dol ≤ 100) (i k : Nat) (hi : i + b.toNat ≤ s.size) (hk : 2 * s.size + 4 < k) :
    Spec.spec_Cell.j5 k s v 0 dol i ok b = some (cellEnd v ok (dol - b.toNat) ((nm8 s).drop (i + b.toNat))) := by
  obtain ⟨k, rfl⟩ : ∃ m, k = m + 1 := ⟨k - 1, by omega⟩
  simp only [Spec.spec_Cell.j5]
  cases b with
  | true =>
    have hi' : i + 1 ≤ s.size := hi
    rw [if_pos rfl, w64 (by omega) (by omega), w64 (by omega) (by omega)]
    have e : (i : Int) + 1 = ((i + 1 : Nat) : Int) := by omega
    rw [e, cell_j6 s hs v ok (dol - 1) (i + 1) k hi' (by omega)]
    rfl
  | false =>
    rw [if_neg (by decide), cell_j6 s hs v ok dol i k (by simpa using hi) (by omega)]
    have e : dol - ((false.toNat : Nat) : Int) = dol := by simp
    rw [e]
    rfl
/-- The number of a part of the text, by the reference. -/
theorem part_num (s : ByteArray) (hs : s.size ≤ 40) (a b k : Nat) (hk : 200 < k) :
    PFnCellText.spec_ColumnNumber.f k (s.extract a b) = some (if okL 0 (((nm8 s).drop a).take (b - a)) then (val 0 (((nm8 s).drop a).take (b - a)), decide (0 < val 0 (((nm8 s).drop a).take (b - a)))) else (0, false)) := by
  have hz : (s.extract a b).size ≤ 40 := by rw [ByteArray.size_extract]; omega
  have := specNum_run (s.extract a b) (by omega) (s.extract a b).size k 0 0 (by omega) (by omega) (by omega) (by omega)
  rw [List.drop_zero, nm8_ext] at this
  exact this
theorem flagB_of (T D : List Int) : flagB T D = true ↔ T ≠ [] ∧ D.head? = some 36 ∧ ∃ c, D.tail.head? = some c ∧ 48 ≤ c ∧ c ≤ 57 := by
  unfold flagB
  rw [Bool.and_eq_true, Bool.and_eq_true, decide_eq_true_iff]
  constructor
  · rintro ⟨⟨h1, h2⟩, h3⟩
    refine ⟨by intro e; rw [e] at h1; simp at h1, h2, ?_⟩
    unfold isDig at h3
    split at h3
    · rename_i c hc; exact ⟨c, hc, by simpa using h3⟩
    · cases h3
  · rintro ⟨h1, h2, c, h3, h4⟩
    refine ⟨⟨by cases T with | nil => exact absurd rfl h1 | cons _ _ => rfl, h2⟩, ?_⟩
    unfold isDig
    rw [h3]
    simpa using h4
/-- The stage behind the letters: what is asked of the sign behind them. -/
theorem cell_j4_eq (k : Nat) (s : ByteArray) (x3 x6 x8 x9 : Int) (v : Int) (ok : Bool) (h0 : 0 ≤ x9) (h1 : x9 ≤ x8) (h2 : x8 ≤ (s.size : Int)) (hp : PFnCellText.spec_ColumnNumber.f k (s.extract x9.toNat x8.toNat) = some (v, ok)) (hs : s.size ≤ 40) :
    Spec.spec_Cell.j4 (k + 1) s x3 x6 x8 x9 = Spec.spec_Cell.j5 k s v x3 x6 x8 ok (decide (x8 + 1 < (s.size : Int)) && decide (x9 < x8) && decide (bt s x8 = 36) && decide (48 ≤ bt s (x8 + 1)) && decide (bt s (x8 + 1) ≤ 57)) := by
  have e1 : wrap64 (x8 + 1) = x8 + 1 := w64 (by omega) (by omega)
  simp only [Spec.spec_Cell.j4]
  rw [if_pos h0, if_pos h1, if_pos h2, hp]
  simp only [Option.bind_some]
  rw [e1]
  by_cases c1 : x8 + 1 < (s.size : Int)
  · rw [if_pos c1, decide_eq_true c1]
    by_cases c2 : x9 < x8
    · rw [if_pos c2, if_pos (by omega), if_pos (by omega), decide_eq_true c2]
      by_cases c3 : bt s x8 = 36
      · rw [if_pos c3, if_pos (by omega), decide_eq_true c3]
        by_cases c4 : 48 ≤ bt s (x8 + 1)
        · rw [if_pos c4, decide_eq_true c4]
          simp only [Bool.true_and]
        · rw [if_neg c4, decide_eq_false c4]
          simp only [Bool.true_and, Bool.false_and, Bool.and_false]
      · rw [if_neg c3, decide_eq_false c3]
        simp only [Bool.true_and, Bool.false_and, Bool.and_false]
    · rw [if_neg c2, decide_eq_false c2]
      simp only [Bool.false_and, Bool.and_false]
  · rw [if_neg c1, decide_eq_false c1]
    simp only [Bool.false_and]
theorem flag_eq (s : ByteArray) (fr n : Nat) (hn : fr + n ≤ s.size) :
    (decide ((((fr + n : Nat) : Int)) + 1 < (s.size : Int)) && decide ((fr : Int) < ((fr + n : Nat) : Int)) && decide (bt s ((fr + n : Nat) : Int) = 36) && decide (48 ≤ bt s (((fr + n : Nat) : Int) + 1)) && decide (bt s (((fr + n : Nat) : Int) + 1) ≤ 57)) =
    flagB (((nm8 s).drop fr).take n) ((nm8 s).drop (fr + n)) := by
  rw [Bool.eq_iff_iff, flagB_of]
  simp only [Bool.and_eq_true, decide_eq_true_iff]
  have hT : ((nm8 s).drop fr).take n ≠ [] ↔ 0 < n := by
    rw [Ne, List.take_eq_nil_iff, List.drop_eq_nil_iff, nm8_len]
    omega
  have ec : (((fr + n : Nat) : Int)) + 1 = ((fr + n + 1 : Nat) : Int) := by omega
  rw [hT, ec]
  constructor
  · rintro ⟨⟨⟨⟨h1, h2⟩, h3⟩, h4⟩, h5⟩
    refine ⟨by omega, ?_, bt s ((fr + n + 1 : Nat) : Int), ?_, h4, h5⟩
    · rw [head_at s (fr + n) (by omega), h3]
    · rw [List.tail_drop, head_at s (fr + n + 1) (by omega)]
  · rintro ⟨h1, h2, c, h3, h4⟩
    have g1 : fr + n < s.size := by
      by_cases hh : fr + n < s.size
      · exact hh
      · rw [head_end s _ (by omega)] at h2; cases h2
    rw [head_at s _ g1] at h2
    rw [List.tail_drop] at h3
    have g2 : fr + n + 1 < s.size := by
      by_cases hh : fr + n + 1 < s.size
      · exact hh
      · rw [head_end s _ (by omega)] at h3; cases h3
    rw [head_at s _ g2] at h3
    have e3 := Option.some.inj h3
    rw [e3]
    exact ⟨⟨⟨⟨by omega, by omega⟩, Option.some.inj h2⟩, h4.1⟩, h4.2⟩
theorem cell_j4 (s : ByteArray) (hs : s.size ≤ 40) (dol : Int) (hd0 : -1 ≤ dol) (hd : dol ≤ 100) (fr n k : Nat) (hn : fr + n ≤ s.size) (hk : 300 < k) (v : Int) (ok : Bool)
    (hv : v = if okL 0 (((nm8 s).drop fr).take n) then val 0 (((nm8 s).drop fr).take n) else 0) (hok : ok = (okL 0 (((nm8 s).drop fr).take n) && decide (0 < val 0 (((nm8 s).drop fr).take n)))) (b : Bool) (hb : b = flagB (((nm8 s).drop fr).take n) ((nm8 s).drop (fr + n))) :
    Spec.spec_Cell.j4 k s 0 dol ((fr + n : Nat) : Int) fr = some (cellEnd v ok (dol - b.toNat) (((nm8 s).drop (fr + n)).drop b.toNat)) := by
  obtain ⟨k, rfl⟩ : ∃ m, k = m + 1 := ⟨k - 1, by omega⟩
  have hp : PFnCellText.spec_ColumnNumber.f k (s.extract ((fr : Nat) : Int).toNat ((fr + n : Nat) : Int).toNat) = some (v, ok) := by
    have := part_num s hs fr (fr + n) k (by omega)
    have e : fr + n - fr = n := by omega
    rw [e] at this
    rw [Int.toNat_natCast, Int.toNat_natCast, this, hv, hok]
    by_cases c : okL 0 (((nm8 s).drop fr).take n) = true
    · rw [if_pos c, if_pos c, c, Bool.true_and]
    · rw [if_neg c, if_neg c, Bool.eq_false_iff.2 c, Bool.false_and]
  rw [cell_j4_eq k s 0 dol _ _ v ok (by omega) (by omega) (by omega) hp hs, flag_eq s fr n hn, ← hb]
  have hbn : fr + n + b.toNat ≤ s.size := by
    cases b with
    | false => simpa using hn
    | true =>
      have := (flagB_of _ _).1 hb.symm
      obtain ⟨_, h2, _⟩ := this
      by_cases hh : fr + n < s.size
      · show fr + n + 1 ≤ s.size; omega
      · rw [head_end s _ (by omega)] at h2; cases h2
  rw [cell_j5 s hs v ok b dol (by omega) hd (fr + n) k hbn (by omega), List.drop_drop]
theorem nd_iff (c : Int) : nd c = true ↔ ¬ (48 ≤ c ∧ c ≤ 57) ∧ c ≠ 36 := by
  unfold nd
  rw [Bool.and_eq_true, Bool.not_eq_true', Bool.not_eq_true', decide_eq_false_iff_not, decide_eq_false_iff_not]
/-- The letters are gone through. -/
theorem cell_l1 (s : ByteArray) (hs : s.size ≤ 40) (dol : Int) (fr : Nat) (d : Nat) : ∀ (k at_ : Nat), at_ + d = s.size → d < k →
    ∃ k', k - d - 1 ≤ k' ∧ Spec.spec_Cell.l1 k s 0 dol at_ fr = Spec.spec_Cell.j4 k' s 0 dol ((at_ + (((nm8 s).drop at_).takeWhile nd).length : Nat) : Int) fr := by
  induction d with
  | zero =>
    intro k at_ hi hk
    obtain ⟨k, rfl⟩ : ∃ m, k = m + 1 := ⟨k - 1, by omega⟩
    refine ⟨k, by omega, ?_⟩
    simp only [Spec.spec_Cell.l1]
    rw [if_neg (by omega), List.drop_eq_nil_of_le (by rw [nm8_len]; omega)]
    rfl
  | succ d ih =>
    intro k at_ hi hk
    obtain ⟨k, rfl⟩ : ∃ m, k = m + 1 := ⟨k - 1, by omega⟩
    have e1 : wrap64 ((at_ : Int) + 1) = ((at_ + 1 : Nat) : Int) := by rw [w64 (by omega) (by omega)]; omega
    simp only [Spec.spec_Cell.l1]
    rw [if_pos (by omega), if_pos (by omega), drop_cons s at_ (by omega), e1]
    cases hnd : nd (bt s at_) with
    | true =>
      have h1 := (nd_iff _).1 hnd
      obtain ⟨k', hk', he⟩ := ih k (at_ + 1) (by omega) (by omega)
      refine ⟨k', by omega, ?_⟩
      rw [List.takeWhile_cons_of_pos hnd, List.length_cons]
      have e2 : at_ + (((nm8 s).drop (at_ + 1)).takeWhile nd).length.succ = at_ + 1 + (((nm8 s).drop (at_ + 1)).takeWhile nd).length := by omega
      rw [show (((nm8 s).drop (at_ + 1)).takeWhile nd).length + 1 = (((nm8 s).drop (at_ + 1)).takeWhile nd).length.succ from rfl, e2, ← he]
      by_cases c1 : bt s at_ ≥ 48
      · rw [if_pos c1, if_neg (fun h => h1.1 ⟨c1, h⟩), if_neg h1.2]
      · rw [if_neg c1, if_neg h1.2]
    | false =>
      refine ⟨k, by omega, ?_⟩
      rw [List.takeWhile_cons_of_neg (by rw [hnd]; decide)]
      have h1 : ¬ (¬ (48 ≤ bt s at_ ∧ bt s at_ ≤ 57) ∧ bt s at_ ≠ 36) := fun h => by rw [(nd_iff _).2 h] at hnd; cases hnd
      by_cases c1 : bt s at_ ≥ 48
      · rw [if_pos c1]
        by_cases c2 : bt s at_ ≤ 57
        · rw [if_pos c2]; rfl
        · rw [if_neg c2, if_pos (by omega)]; rfl
      · rw [if_neg c1, if_pos (by omega)]; rfl
end Go.Proofs.YthegckcffmlanaaDoor.Plain
