/- Whole numbers as floats: what the four operations give, where nothing is rounded. No program in sight. -/
import Derived.Laws.FloatArith
namespace Go.Proofs.Ytedbbekfpficpaa.Fl
open Ieee

def D : Format := Ieee.double
theorem hB : D.binade = 2 ^ 52 := rfl
theorem hLP : D.leastPlace = -1074 := by decide
theorem hInf : D.infRung = 2047 * 2 ^ 52 := by decide
theorem hSW : D.signWeight = 2 ^ 63 := rfl

/-- The rung of a whole number of 'l' binary digits and one. -/
def rung (n : Nat) : Nat := (n.log2 + 1022) * 2 ^ 52 + n * 2 ^ (52 - n.log2)

theorem log2_le {n : Nat} (h : n < 2 ^ 53) : n.log2 ≤ 52 := by
  by_cases h0 : n = 0
  · subst h0; decide
  · have := (Nat.log2_lt h0).2 h
    omega

theorem log2_mul_pow {n : Nat} (h0 : n ≠ 0) (K : Nat) : (n * 2 ^ K).log2 = n.log2 + K := by
  have h1 := Nat.log2_self_le h0
  have h2 := (Nat.lt_log2_self (n := n))
  have hne : n * 2 ^ K ≠ 0 := Nat.mul_ne_zero h0 (by simp)
  apply Nat.le_antisymm
  · have : (n * 2 ^ K).log2 < n.log2 + K + 1 := by
      rw [Nat.log2_lt hne]
      calc n * 2 ^ K < 2 ^ (n.log2 + 1) * 2 ^ K := Nat.mul_lt_mul_of_pos_right h2 (Nat.two_pow_pos _)
        _ = 2 ^ (n.log2 + K + 1) := by rw [← Nat.pow_add]; congr 1; omega
    omega
  · rw [Nat.le_log2 hne]
    calc 2 ^ (n.log2 + K) = 2 ^ n.log2 * 2 ^ K := Nat.pow_add ..
      _ ≤ n * 2 ^ K := Nat.mul_le_mul_right _ h1

theorem sig_bounds {n : Nat} (h0 : n ≠ 0) (h : n < 2 ^ 53) : 2 ^ 52 ≤ n * 2 ^ (52 - n.log2) ∧ n * 2 ^ (52 - n.log2) < 2 ^ 53 := by
  have hl := log2_le h
  have h1 := Nat.log2_self_le h0
  have h2 := (Nat.lt_log2_self (n := n))
  constructor
  · calc 2 ^ 52 = 2 ^ n.log2 * 2 ^ (52 - n.log2) := by rw [← Nat.pow_add]; congr 1; omega
      _ ≤ _ := Nat.mul_le_mul_right _ h1
  · calc n * 2 ^ (52 - n.log2) < 2 ^ (n.log2 + 1) * 2 ^ (52 - n.log2) := Nat.mul_lt_mul_of_pos_right h2 (Nat.two_pow_pos _)
      _ = 2 ^ 53 := by rw [← Nat.pow_add]; congr 1; omega

theorem cut_exact (s : Bool) (m d : Nat) (h : m ≠ 0) : Toward.even.cut s (m * 2 ^ d) d = m := by
  have hl : min d ((m * 2 ^ d).log2 + 2) = d := by rw [log2_mul_pow h]; omega
  have hp : 0 < 2 ^ d := Nat.two_pow_pos _
  unfold Toward.cut
  simp only [hl, Nat.shiftLeft_eq, Nat.one_mul, Nat.mul_div_cancel _ hp, Nat.mul_mod_left]
  simp

theorem rung_lt {n : Nat} (h0 : n ≠ 0) (h : n < 2 ^ 53) : rung n < 2047 * 2 ^ 52 := by
  have hl := log2_le h
  have hb := sig_bounds h0 h
  unfold rung
  generalize hx : n * 2 ^ (52 - n.log2) = x at hb ⊢
  have h53 : (2 : Nat) ^ 53 = 2 * 2 ^ 52 := by decide
  rw [h53] at hb
  generalize (2 : Nat) ^ 52 = p at hb ⊢
  have h1 : (n.log2 + 1022) * p ≤ 1074 * p := Nat.mul_le_mul_right _ (by omega)
  omega

theorem nearest_int (s : Bool) {n : Nat} (h0 : n ≠ 0) (h : n < 2 ^ 53) (K : Nat) : D.nearest s (n * 2 ^ K) (-(K : Int)) = D.word s (rung n) := by
  have hl := log2_le h
  have hne : n * 2 ^ K ≠ 0 := Nat.mul_ne_zero h0 (by simp)
  have hlg := log2_mul_pow h0 K
  have hb := sig_bounds h0 h
  unfold Format.nearest
  rw [if_neg hne]
  have hlast : max (-(K : Int) + ((n * 2 ^ K).log2 : Nat) - (D.fractionBits : Nat)) D.leastPlace = (n.log2 : Int) - 52 := by
    rw [hlg, hLP]
    have : (D.fractionBits : Nat) = 52 := rfl
    rw [this]
    omega
  simp only [hlast]
  rw [hLP, hB, hInf]
  have hk : Toward.even.cut s ((n * 2 ^ K) <<< (-(K : Int) - ((n.log2 : Int) - 52)).toNat) (((n.log2 : Int) - 52 - -(K : Int)).toNat) = n * 2 ^ (52 - n.log2) := by
    by_cases hc : K + n.log2 ≤ 52
    · have e1 : (-(K : Int) - ((n.log2 : Int) - 52)).toNat = 52 - n.log2 - K := by omega
      have e2 : ((n.log2 : Int) - 52 - -(K : Int)).toNat = 0 := by omega
      rw [e1, e2, Nat.shiftLeft_eq, Nat.mul_assoc, ← Nat.pow_add, show K + (52 - n.log2 - K) = 52 - n.log2 from by omega]
      have := cut_exact s (n * 2 ^ (52 - n.log2)) 0 (by omega)
      simpa using this
    · have e1 : (-(K : Int) - ((n.log2 : Int) - 52)).toNat = 0 := by omega
      have e2 : ((n.log2 : Int) - 52 - -(K : Int)).toNat = K + n.log2 - 52 := by omega
      rw [e1, e2, Nat.shiftLeft_eq, Nat.pow_zero, Nat.mul_one]
      have e3 : n * 2 ^ K = n * 2 ^ (52 - n.log2) * 2 ^ (K + n.log2 - 52) := by
        rw [Nat.mul_assoc, ← Nat.pow_add]; congr 2; omega
      rw [e3]
      exact cut_exact s _ _ (by omega)
  rw [hk]
  have hr : ((n.log2 : Int) - 52 - -1074).toNat = n.log2 + 1022 := by omega
  rw [hr]
  have : min ((n.log2 + 1022) * 2 ^ 52 + n * 2 ^ (52 - n.log2)) (2047 * 2 ^ 52) = rung n := by
    exact Nat.min_eq_left (Nat.le_of_lt (rung_lt h0 h))
  rw [this]

theorem nearest_zero (s : Bool) (p : Int) : D.nearest s 0 p = D.word s 0 := by simp [Format.nearest]

theorem read_rung (s : Bool) {n : Nat} (h0 : n ≠ 0) (h : n < 2 ^ 53) : D.read (D.word s (rung n)) = .number s (n * 2 ^ (52 - n.log2)) ((n.log2 : Int) - 52) := by
  have hl := log2_le h
  have hb := sig_bounds h0 h
  have hlt : rung n < 2047 * 2 ^ 52 := rung_lt h0 h
  have hge : 2 ^ 52 ≤ rung n := by unfold rung; omega
  have hsw : rung n < 2 ^ 63 := by
    have : 2047 * 2 ^ 52 < 2 ^ 63 := by decide
    omega
  have hneg : (D.word s (rung n) / D.signWeight % 2 == 1) = s := by
    rw [hSW]
    cases s
    · have : D.word false (rung n) = rung n := rfl
      rw [this, Nat.div_eq_of_lt hsw]; rfl
    · have : D.word true (rung n) = 2 ^ 63 + rung n := rfl
      rw [this, Nat.add_div_left _ (by decide), Nat.div_eq_of_lt hsw]
      rfl
  have hrg : D.word s (rung n) % D.signWeight = rung n := by
    rw [hSW]
    cases s
    · exact Nat.mod_eq_of_lt hsw
    · have : D.word true (rung n) = 2 ^ 63 + rung n := rfl
      rw [this, Nat.add_mod_left]; exact Nat.mod_eq_of_lt hsw
  unfold Format.read
  simp only [hneg, hrg, hB, hInf, hLP]
  rw [if_neg (by omega), if_pos hlt]
  have hdiv : rung n / 2 ^ 52 = n.log2 + 1023 := by
    unfold rung
    rw [Nat.mul_comm, Nat.mul_add_div (by decide)]
    have : n * 2 ^ (52 - n.log2) / 2 ^ 52 = 1 := by
      apply Nat.div_eq_of_lt_le <;> omega
    rw [this]
  have hmod : 2 ^ 52 + rung n % 2 ^ 52 = n * 2 ^ (52 - n.log2) := by
    unfold rung
    rw [Nat.mul_comm, Nat.mul_add_mod]
    have : n * 2 ^ (52 - n.log2) % 2 ^ 52 = n * 2 ^ (52 - n.log2) - 2 ^ 52 := by
      rw [Nat.mod_eq_sub_mod hb.1]
      exact Nat.mod_eq_of_lt (by omega)
    rw [this]; omega
  rw [hdiv, hmod]
  have he : (-1074 : Int) + ((n.log2 + 1023 - 1 : Nat) : Int) = (n.log2 : Int) - 52 := by omega
  rw [he]

theorem read_zero : D.read 0 = .number false 0 (-1074) := by decide
theorem read_negzero : D.read (2 ^ 63) = .number true 0 (-1074) := by decide

/-- The float of a whole number. -/
def F (n : Int) : Nat := floatOfInt .f64 n
theorem F_eq (n : Int) : F n = D.nearest (n < 0) n.natAbs 0 := rfl
theorem F_zero : F 0 = 0 := by decide
theorem F_ne {n : Int} (h0 : n ≠ 0) (h : n.natAbs < 2 ^ 53) : F n = D.word (n < 0) (rung n.natAbs) := by
  have := nearest_int (decide (n < 0)) (n := n.natAbs) (by omega) h 0
  simpa [F_eq] using this

/-- What a word reads as, where it stands for a whole number: at every place far enough down. -/
def Int_ (x : Nat) (a : Int) : Prop := ∃ s m i, D.read x = .number s m i ∧ i ≤ 0 ∧ (s = true → a ≤ 0 ) ∧ (s = false → 0 ≤ a) ∧ m = a.natAbs * 2 ^ (-i).toNat

theorem Int_F {a : Int} (h : a.natAbs < 2 ^ 53) : Int_ (F a) a := by
  by_cases h0 : a = 0
  · subst h0
    exact ⟨false, 0, -1074, by rw [F_zero]; exact read_zero, by omega, by simp, by simp, by rw [Int.natAbs_zero, Nat.zero_mul]⟩
  · have hl := log2_le h
    refine ⟨decide (a < 0), _, _, by rw [F_ne h0 h]; exact read_rung _ (by omega) h, by omega, ?_, ?_, ?_⟩
    · intro hs; have := of_decide_eq_true hs; omega
    · intro hs; have := of_decide_eq_false hs; omega
    · congr 2; omega
theorem Int_negzero : Int_ (2 ^ 63) 0 := ⟨true, 0, -1074, read_negzero, by omega, by simp, by simp, by rw [Int.natAbs_zero, Nat.zero_mul]⟩

theorem signed_of {s : Bool} {a : Int} {m : Nat} {i base : Int} (hi : base ≤ i) (hi0 : i ≤ 0) (h1 : s = true → a ≤ 0) (h2 : s = false → 0 ≤ a) (hm : m = a.natAbs * 2 ^ (-i).toNat) :
    signed s m (i - base).toNat = a * (2 ^ (-base).toNat : Nat) := by
  have e : m <<< (i - base).toNat = a.natAbs * 2 ^ (-base).toNat := by
    rw [hm, Nat.shiftLeft_eq, Nat.mul_assoc, ← Nat.pow_add]; congr 2; omega
  unfold signed
  rw [e]
  cases s
  · have := h2 rfl
    rw [if_neg (by simp), Int.natCast_mul, Int.natAbs_of_nonneg this]
  · have := h1 rfl
    rw [if_pos rfl, Int.natCast_mul, Int.ofNat_natAbs_of_nonpos this, Int.neg_mul, Int.neg_neg]

/-- What is written of a whole number at any place. -/
theorem write_int {a : Int} (h : a.natAbs < 2 ^ 53) (s : Bool) (hs : a ≠ 0 → s = decide (a < 0)) (hs0 : a = 0 → s = false) (K : Nat) : D.write (.number s (a.natAbs * 2 ^ K) (-(K : Int))) = F a := by
  by_cases h0 : a = 0
  · subst h0
    have := hs0 rfl
    subst this
    simp [Format.write, F_zero]
    exact nearest_zero _ _
  · rw [hs h0, F_ne h0 h]
    exact nearest_int _ (by omega) h K

theorem order_F {a b : Int} (ha : a.natAbs < 2 ^ 53) (hb : b.natAbs < 2 ^ 53) : (D.order (F a) (F b) == some .eq) = decide (a = b) := by
  obtain ⟨s, m, i, e1, hi, h1, h2, hm⟩ := Int_F ha
  obtain ⟨t, n, j, e2, hj, k1, k2, hn⟩ := Int_F hb
  unfold Format.order Datum.order
  rw [e1, e2]
  simp only
  rw [signed_of (base := min i j) (by omega) hi h1 h2 hm, signed_of (base := min i j) (by omega) hj k1 k2 hn]
  generalize hP : (2 ^ (-min i j).toNat : Nat) = p
  have hp : 0 < (p : Int) := by
    have : 0 < p := by rw [← hP]; exact Nat.two_pow_pos _
    omega
  by_cases hab : a = b
  · subst hab
    simp
  · simp only [hab, decide_false]
    have : a * (p : Int) ≠ b * (p : Int) := fun he => hab (Int.eq_of_mul_eq_mul_right (by omega) he)
    have hc : compare (a * (p : Int)) (b * (p : Int)) ≠ .eq := by
      intro hc
      exact this (Std.LawfulEqCmp.eq_of_compare hc)
    simp [hc]

theorem add_F {a b : Int} {y : Nat} (ha : a.natAbs < 2 ^ 53) (hy : Int_ y b) (hab : (a + b).natAbs < 2 ^ 53) : floatBits .add .f64 (F a) y = some (F (a + b)) := by
  obtain ⟨s, m, i, e1, hi, h1, h2, hm⟩ := Int_F ha
  obtain ⟨t, n, j, e2, hj, k1, k2, hn⟩ := hy
  show (((D.read (F a)).sum (D.read y)).map D.write) = _
  rw [e1, e2]
  unfold Datum.sum
  simp only
  rw [signed_of (base := min i j) (by omega) hi h1 h2 hm, signed_of (base := min i j) (by omega) hj k1 k2 hn, ← Int.add_mul]
  have hpos : 0 < (2 ^ (-min i j).toNat : Nat) := Nat.two_pow_pos _
  have hbase : min i j = -((-min i j).toNat : Int) := by omega
  rw [Option.map_some]
  congr 1
  have hna : ((a + b) * ((2 ^ (-min i j).toNat : Nat) : Int)).natAbs = (a + b).natAbs * 2 ^ (-min i j).toNat := by
    rw [Int.natAbs_mul, Int.natAbs_natCast]
  rw [hna]
  conv => lhs; rw [show (Datum.number (if (a + b) * ((2 ^ (-min i j).toNat : Nat) : Int) = 0 then s && t else decide ((a + b) * ((2 ^ (-min i j).toNat : Nat) : Int) < 0)) ((a + b).natAbs * 2 ^ (-min i j).toNat) (min i j)) = Datum.number (if (a + b) * ((2 ^ (-min i j).toNat : Nat) : Int) = 0 then s && t else decide ((a + b) * ((2 ^ (-min i j).toNat : Nat) : Int) < 0)) ((a + b).natAbs * 2 ^ (-min i j).toNat) (-((-min i j).toNat : Int)) from by rw [← hbase]]
  have hz : (a + b) * ((2 ^ (-min i j).toNat : Nat) : Int) = 0 ↔ a + b = 0 := by
    constructor
    · intro h
      rcases Int.mul_eq_zero.1 h with h | h
      · exact h
      · omega
    · intro h; rw [h, Int.zero_mul]
  refine write_int hab _ ?_ ?_ _
  · intro hne
    rw [if_neg (fun h => hne (hz.1 h))]
    apply decide_eq_decide.2
    constructor
    · intro h
      by_cases hc : a + b < 0
      · exact hc
      · have := Int.mul_nonneg (show (0 : Int) ≤ a + b by omega) (show (0 : Int) ≤ ((2 ^ (-min i j).toNat : Nat) : Int) by omega)
        omega
    · intro h
      exact Int.mul_neg_of_neg_of_pos h (by omega)
  · intro h0
    rw [if_pos (hz.2 h0)]
    cases s with
    | false => rfl
    | true =>
      cases t with
      | false => rfl
      | true =>
        have := h1 rfl
        have := k1 rfl
        have h3 : a = 0 := by omega
        subst h3
        rw [F_zero, read_zero] at e1
        simp at e1

theorem mul_F {a b : Int} (ha : a.natAbs < 2 ^ 53) (hb : b.natAbs < 2 ^ 53) (hab : (a * b).natAbs < 2 ^ 53) : ∃ r, floatBits .mul .f64 (F a) (F b) = some r ∧ Int_ r (a * b) := by
  obtain ⟨s, m, i, e1, hi, h1, h2, hm⟩ := Int_F ha
  obtain ⟨t, n, j, e2, hj, k1, k2, hn⟩ := Int_F hb
  have he : floatBits .mul .f64 (F a) (F b) = some (D.write (.number (s ^^ t) (m * n) (i + j))) := by
    show (((D.read (F a)).product (D.read (F b))).map D.write) = _
    rw [e1, e2]; rfl
  refine ⟨_, he, ?_⟩
  have hmn : m * n = (a * b).natAbs * 2 ^ (-(i + j)).toNat := by
    rw [hm, hn, Int.natAbs_mul]
    rw [show (-(i + j)).toNat = (-i).toNat + (-j).toNat from by omega, Nat.pow_add]
    simp only [Nat.mul_assoc, Nat.mul_left_comm]
  by_cases h0 : a * b = 0
  · rw [hmn, h0]
    simp only [Int.natAbs_zero, Nat.zero_mul, Format.write, nearest_zero]
    cases hx : (s ^^ t)
    · have := Int_F (a := 0) (by decide)
      rwa [F_zero] at this
    · exact Int_negzero
  · have hij : i + j = -((-(i + j)).toNat : Int) := by omega
    have hw : D.write (.number (s ^^ t) (m * n) (i + j)) = F (a * b) := by
      rw [hmn]
      conv => lhs; rw [show (Datum.number (s ^^ t) ((a * b).natAbs * 2 ^ (-(i + j)).toNat) (i + j)) = Datum.number (s ^^ t) ((a * b).natAbs * 2 ^ (-(i + j)).toNat) (-((-(i + j)).toNat : Int)) from by rw [← hij]]
      refine write_int (a := a * b) hab (s ^^ t) ?_ (fun h => absurd h h0) _
      intro _
      have ha0 : a ≠ 0 := fun h => h0 (by rw [h, Int.zero_mul])
      have hb0 : b ≠ 0 := fun h => h0 (by rw [h, Int.mul_zero])
      cases s <;> cases t
      · have := h2 rfl; have := k2 rfl
        have := Int.mul_nonneg ‹0 ≤ a› ‹0 ≤ b›
        simp; omega
      · have := h2 rfl; have := k1 rfl
        have := Int.mul_neg_of_pos_of_neg (show 0 < a by omega) (show b < 0 by omega)
        simp; omega
      · have := h1 rfl; have := k2 rfl
        have := Int.mul_neg_of_neg_of_pos (show a < 0 by omega) (show 0 < b by omega)
        simp; omega
      · have := h1 rfl; have := k1 rfl
        have := Int.mul_pos_of_neg_of_neg (show a < 0 by omega) (show b < 0 by omega)
        simp; omega
    rw [hw]; exact Int_F hab

/-- Divided by one. -/
theorem quo_F {a : Int} (ha : a.natAbs < 2 ^ 53) : floatBits .quo .f64 (F a) (F 1) = some (F a) := by
  have e2 : D.read (F 1) = .number false (2 ^ 52) (-52) := by decide
  by_cases h0 : a = 0
  · subst h0; decide
  · have e1 : D.read (F a) = .number (decide (a < 0)) (a.natAbs * 2 ^ (52 - a.natAbs.log2)) ((a.natAbs.log2 : Int) - 52) := by
      rw [F_ne h0 ha]; exact read_rung _ (by omega) ha
    have hl := log2_le ha
    have hlg : (a.natAbs * 2 ^ (52 - a.natAbs.log2)).log2 = 52 := by rw [log2_mul_pow (by omega)]; omega
    show (((D.read (F a)).quotient 54 (D.read (F 1))).map D.write) = _
    rw [e1, e2]
    unfold Datum.quotient
    simp only
    rw [if_neg (by decide), hlg, show (2 ^ 52 : Nat).log2 = 52 from by decide]
    simp only [Nat.shiftLeft_eq, Nat.add_sub_cancel]
    have hd : a.natAbs * 2 ^ (52 - a.natAbs.log2) * 2 ^ 54 = a.natAbs * 2 ^ (52 - a.natAbs.log2) * 2 ^ 2 * 2 ^ 52 := by
      simp only [Nat.mul_assoc, show (2 ^ 54 : Nat) = 2 ^ 2 * 2 ^ 52 from by decide]
    rw [hd, Nat.mul_div_cancel _ (by decide), Nat.mul_mod_left]
    rw [Option.map_some]
    congr 1
    have hm : 2 * (a.natAbs * 2 ^ (52 - a.natAbs.log2) * 2 ^ 2) + (0 != 0 : Bool).toNat = a.natAbs * 2 ^ (55 - a.natAbs.log2) := by
      rw [show 55 - a.natAbs.log2 = (52 - a.natAbs.log2) + 3 from by omega, Nat.pow_add]
      simp only [bne_self_eq_false, Bool.toNat_false, Nat.add_zero]
      generalize 2 ^ (52 - a.natAbs.log2) = q
      rw [← Nat.mul_assoc a.natAbs q (2 ^ 3)]
      omega
    have hp : (a.natAbs.log2 : Int) - 52 - -52 - (54 : Nat) - 1 = -((55 - a.natAbs.log2 : Nat) : Int) := by omega
    rw [hm, Bool.xor_false, hp]
    exact write_int ha _ (fun _ => rfl) (fun h => absurd h h0) _

end Go.Proofs.Ytedbbekfpficpaa.Fl
