import Derived.Test.YtedbbekfpficpaaGrid
namespace Go.Proofs.Ytedbbekfpficpaa
/-- A matrix given by its entries. -/
def mat (r c : Nat) (f : Nat → Nat → Int) : List (List Int) := (List.range r).map fun i => (List.range c).map fun j => f i j
theorem mulM_mat (a b : List (List Int)) (r k c : Nat) : mulM a b r k c = mat r c (fun i j => dot a b i j k) := rfl
theorem gridM_mat (l : List Int) (r c : Nat) : gridM l r c = mat r c (fun i k => cellG l (i * c + k)) := rfl
theorem ent_mat (r c : Nat) (f : Nat → Nat → Int) (i j : Nat) : ent (mat r c f) i j = if i < r ∧ j < c then f i j else 0 := by
  unfold ent mat
  by_cases hi : i < r
  · by_cases hj : j < c
    · simp [List.getD_eq_getElem?_getD, hi, hj]
    · simp [List.getD_eq_getElem?_getD, hi, hj]
  · simp [List.getD_eq_getElem?_getD, hi]
theorem ent_in {r c : Nat} {f : Nat → Nat → Int} {i j : Nat} (hi : i < r) (hj : j < c) : ent (mat r c f) i j = f i j := by
  rw [ent_mat, if_pos ⟨hi, hj⟩]
theorem sized_mat (r c : Nat) (f : Nat → Nat → Int) : Sized (mat r c f) r c := by
  refine ⟨by simp [mat], fun x hx => ?_⟩
  obtain ⟨i, _, rfl⟩ := List.mem_map.1 hx
  simp
theorem mat_congr {r c : Nat} {f g : Nat → Nat → Int} (h : ∀ i j, i < r → j < c → f i j = g i j) : mat r c f = mat r c g := by
  unfold mat
  refine List.map_congr_left (fun i hi => List.map_congr_left (fun j hj => ?_))
  exact h i j (List.mem_range.1 hi) (List.mem_range.1 hj)
theorem ent_bound {r c : Nat} {f : Nat → Nat → Int} {B : Nat} (h : ∀ i j, (f i j).natAbs ≤ B) (i j : Nat) : (ent (mat r c f) i j).natAbs ≤ B := by
  rw [ent_mat]
  split
  · exact h i j
  · simp
theorem dot_bound {a b : List (List Int)} {X Y : Nat} (ha : ∀ i j, (ent a i j).natAbs ≤ X) (hb : ∀ i j, (ent b i j).natAbs ≤ Y) (i j : Nat) : ∀ q, (dot a b i j q).natAbs ≤ q * (X * Y)
  | 0 => by simp [dot]
  | q + 1 => by
    have h1 := dot_bound ha hb i j q
    have h2 : (ent a i q * ent b q j).natAbs ≤ X * Y := by rw [Int.natAbs_mul]; exact Nat.mul_le_mul (ha i q) (hb q j)
    have h3 := Int.natAbs_add_le (dot a b i j q) (ent a i q * ent b q j)
    rw [dot, Nat.succ_mul]
    omega
/-- Behind the last column nothing comes in. -/
theorem dot_tail {a b : List (List Int)} {k : Nat} (ha : ∀ i q, k ≤ q → ent a i q = 0) (i j : Nat) : ∀ q, k ≤ q → dot a b i j q = dot a b i j k := by
  intro q hq
  induction q with
  | zero =>
    have : k = 0 := by omega
    rw [this]
  | succ q ih =>
    by_cases h : k ≤ q
    · rw [dot, ha i q h, Int.zero_mul, Int.add_zero]; exact ih h
    · have : k = q + 1 := by omega
      rw [this]
theorem ent_zero {r c : Nat} {f : Nat → Nat → Int} (i q : Nat) (h : c ≤ q) : ent (mat r c f) i q = 0 := by
  rw [ent_mat, if_neg (by omega)]
theorem fit2_mat {r k c : Nat} {f g : Nat → Nat → Int} {X Y : Nat} (hr : 1 ≤ r ∧ r ≤ 100) (hk : 1 ≤ k ∧ k ≤ 100) (hc : 1 ≤ c ∧ c ≤ 100) (hf : ∀ i j, (f i j).natAbs ≤ X) (hg : ∀ i j, (g i j).natAbs ≤ Y) (hX : X ≤ 1000000) (hY : Y ≤ 1000000) (hXY : X * Y ≤ 10000000000000) :
    Fit2 (mat r k f) (mat k c g) r k c := by
  refine ⟨hr, hk, hc, sized_mat _ _ _, sized_mat _ _ _, fun i j q => ?_⟩
  have h1 := ent_bound (r := r) (c := k) hf i q
  have h2 := ent_bound (r := k) (c := c) hg q j
  refine ⟨by omega, by omega, ?_, ?_⟩
  · rw [Int.natAbs_mul]
    have := Nat.mul_le_mul h1 h2
    omega
  · have hd : ∀ q', q' ≤ 100 → (dot (mat r k f) (mat k c g) i j q').natAbs < 2 ^ 53 := fun q' hq' => by
      have h3 := dot_bound (ent_bound (r := r) (c := k) hf) (ent_bound (r := k) (c := c) hg) i j q'
      have h4 := Nat.mul_le_mul hq' hXY
      omega
    by_cases hq : q ≤ k
    · exact hd q (by omega)
    · rw [dot_tail (fun i q h => ent_zero i q h) i j q (by omega)]
      exact hd k (by omega)
/-- (a b) c is a (b c): three rows and columns. -/
theorem assoc3 (f g h : Nat → Nat → Int) : mulM (mulM (mat 3 3 f) (mat 3 3 g) 3 3 3) (mat 3 3 h) 3 3 3 = mulM (mat 3 3 f) (mulM (mat 3 3 g) (mat 3 3 h) 3 3 3) 3 3 3 := by
  simp only [mulM_mat]
  refine mat_congr (fun i j hi hj => ?_)
  simp only [dot]
  have e : ∀ (f : Nat → Nat → Int) a b, a < 3 → b < 3 → ent (mat 3 3 f) a b = f a b := fun f a b ha hb => ent_in ha hb
  have p0 : 0 < 3 := by decide
  have p1 : 1 < 3 := by decide
  have p2 : 2 < 3 := by decide
  simp only [e _ i 0 hi p0, e _ i 1 hi p1, e _ i 2 hi p2, e _ 0 j p0 hj, e _ 1 j p1 hj, e _ 2 j p2 hj, e _ 0 0 p0 p0, e _ 0 1 p0 p1, e _ 0 2 p0 p2, e _ 1 0 p1 p0, e _ 1 1 p1 p1, e _ 1 2 p1 p2, e _ 2 0 p2 p0, e _ 2 1 p2 p1, e _ 2 2 p2 p2, Int.zero_add]
  simp only [Int.add_mul, Int.mul_add, Int.mul_assoc]
  omega
/-- Rows for columns. -/
def turnM (m : List (List Int)) (r c : Nat) : List (List Int) := mat c r (fun i j => ent m j i)
theorem turn_mul (f g : Nat → Nat → Int) (r k c : Nat) : turnM (mulM (mat r k f) (mat k c g) r k c) r c = mulM (turnM (mat k c g) k c) (turnM (mat r k f) r k) c k r := by
  unfold turnM
  simp only [mulM_mat]
  refine mat_congr (fun i j hi hj => ?_)
  rw [ent_in hj hi]
  have h : ∀ q, q ≤ k → dot (mat r k f) (mat k c g) j i q = dot (mat c k (fun i j => ent (mat k c g) j i)) (mat k r (fun i j => ent (mat r k f) j i)) i j q := by
    intro q
    induction q with
    | zero => intro _; rfl
    | succ q ih =>
      intro hq
      rw [dot, dot, ih (by omega), ent_in (f := fun i j => ent (mat k c g) j i) hi (by omega), ent_in (f := fun i j => ent (mat r k f) j i) (by omega) hj, Int.mul_comm]
  exact h k (Nat.le_refl _)
end Go.Proofs.Ytedbbekfpficpaa
