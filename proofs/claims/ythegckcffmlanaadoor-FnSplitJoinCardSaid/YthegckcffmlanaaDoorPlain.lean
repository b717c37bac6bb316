import Derived.Test.YthegckcffmlanaaDoorErr
import Derived.Test.YthegckcffmlanaaDoorPFnCellTextx1
namespace Go.Proofs.YthegckcffmlanaaDoor.Plain
open Go.RowKit Go.Proofs.YthegckcffmlanaaDoorW.PrintWords

/-! ### Names as lists of letters -/
def nameL (n : Nat) : List Int := if _h : n = 0 then [] else nameL ((n - 1) / 26) ++ [65 + (((n - 1) % 26 : Nat) : Int)]
termination_by n
decreasing_by omega
theorem nameL_zero : nameL 0 = [] := by rw [nameL]; simp
theorem nameL_pos {n : Nat} (h : n ≠ 0) : nameL n = nameL ((n - 1) / 26) ++ [65 + (((n - 1) % 26 : Nat) : Int)] := by
  conv => lhs; rw [nameL]
  rw [dif_neg h]
theorem nameL_letters (n : Nat) : ∀ c ∈ nameL n, 65 ≤ c ∧ c ≤ 90 := by
  induction n using Nat.strongRecOn with
  | ind n ih =>
    by_cases h : n = 0
    · subst h; rw [nameL_zero]; simp
    · rw [nameL_pos h]
      intro c hc
      rcases List.mem_append.1 hc with hc | hc
      · exact ih ((n - 1) / 26) (by omega) c hc
      · simp only [List.mem_singleton] at hc
        omega
theorem nameL_mono (b : Nat) : ∀ a : Nat, a ≤ b → (nameL a).length ≤ (nameL b).length := by
  induction b using Nat.strongRecOn with
  | ind b ih =>
    intro a hab
    by_cases ha : a = 0
    · subst ha; rw [nameL_zero]; simp
    · rw [nameL_pos ha, nameL_pos (by omega : b ≠ 0)]
      simp only [List.length_append, List.length_singleton]
      have := ih ((b - 1) / 26) (by omega) ((a - 1) / 26) (by omega)
      omega
theorem nameL_len_le (n : Nat) : (nameL n).length ≤ n := by
  induction n using Nat.strongRecOn with
  | ind n ih =>
    by_cases h : n = 0
    · subst h; rw [nameL_zero]; simp
    · rw [nameL_pos h]
      simp only [List.length_append, List.length_singleton]
      have := ih ((n - 1) / 26) (by omega)
      omega

/-! ### The number of a list of letters -/
def up (c : Int) : Int := if 97 ≤ c ∧ c ≤ 122 then c - 32 else c
def isL (c : Int) : Prop := 65 ≤ up c ∧ up c ≤ 90
instance (c : Int) : Decidable (isL c) := inferInstanceAs (Decidable (_ ∧ _))
def dig (c : Int) : Int := up c - 64
def val : Int → List Int → Int
  | a, [] => a
  | a, c :: cs => val (26 * a + dig c) cs
theorem dig_of {c : Int} (h : isL c) : 1 ≤ dig c ∧ dig c ≤ 26 := by unfold isL at h; unfold dig; omega
theorem val_append (a : Int) (L M : List Int) : val a (L ++ M) = val (val a L) M := by
  induction L generalizing a with
  | nil => rfl
  | cons c cs ih => exact ih _
theorem val_snoc (a : Int) (L : List Int) (c : Int) : val a (L ++ [c]) = 26 * val a L + dig c := by rw [val_append]; rfl
theorem val_ge (L : List Int) : ∀ a : Int, 0 ≤ a → (∀ c ∈ L, isL c) → a ≤ val a L := by
  induction L with
  | nil => intro a _ _; exact Int.le_refl _
  | cons c cs ih =>
    intro a ha h
    have hd := dig_of (h c (by simp))
    have := ih (26 * a + dig c) (by omega) (fun x hx => h x (by simp [hx]))
    show a ≤ val (26 * a + dig c) cs
    omega
theorem val_pos (L : List Int) (hL : L ≠ []) (h : ∀ c ∈ L, isL c) : 1 ≤ val 0 L := by
  cases L with
  | nil => exact absurd rfl hL
  | cons c cs =>
    have hd := dig_of (h c (by simp))
    have := val_ge cs (26 * 0 + dig c) (by omega) (fun x hx => h x (by simp [hx]))
    show 1 ≤ val (26 * 0 + dig c) cs
    omega
theorem up_of {c : Int} (h : 65 ≤ c ∧ c ≤ 90) : up c = c := by unfold up; rw [if_neg (by omega)]
theorem up_low {c : Int} (h : 65 ≤ c ∧ c ≤ 90) : up (c + 32) = c := by unfold up; rw [if_pos (by omega)]; omega
theorem val_nameL (n : Nat) : val 0 (nameL n) = n := by
  induction n using Nat.strongRecOn with
  | ind n ih =>
    by_cases h : n = 0
    · subst h; rw [nameL_zero]; rfl
    · rw [nameL_pos h, val_snoc, ih ((n - 1) / 26) (by omega)]
      unfold dig
      rw [up_of (by omega)]
      omega
theorem nameL_isL (n : Nat) : ∀ c ∈ nameL n, isL c := fun c hc => by
  have := nameL_letters n c hc
  unfold isL
  rw [up_of this]
  exact this
theorem val_low (L : List Int) : ∀ a : Int, (∀ c ∈ L, 65 ≤ c ∧ c ≤ 90) → val a (L.map (· + 32)) = val a L := by
  induction L with
  | nil => intro a _; rfl
  | cons c cs ih =>
    intro a h
    have hc := h c (by simp)
    show val (26 * a + dig (c + 32)) (cs.map (· + 32)) = val (26 * a + dig c) cs
    rw [ih _ (fun x hx => h x (by simp [hx]))]
    unfold dig
    rw [up_low hc, up_of hc]

/-! ### The order of names -/
theorem val_lt_of_acc (L : List Int) : ∀ (M : List Int) (a b : Int), L.length = M.length → (∀ c ∈ L, isL c) → (∀ c ∈ M, isL c) → a < b → val a L < val b M := by
  induction L with
  | nil =>
    intro M a b hl _ _ hab
    cases M with
    | nil => exact hab
    | cons _ _ => simp at hl
  | cons c cs ih =>
    intro M a b hl h1 h2 hab
    cases M with
    | nil => simp at hl
    | cons d ds =>
      have hc := dig_of (h1 c (by simp))
      have hd := dig_of (h2 d (by simp))
      exact ih ds (26 * a + dig c) (26 * b + dig d) (by simpa using hl) (fun x hx => h1 x (by simp [hx])) (fun x hx => h2 x (by simp [hx])) (by omega)
/-- A letter's byte. -/
def by8 (c : Int) : UInt8 := UInt8.ofNat c.toNat
theorem by8_nat {c : Int} (h : 0 ≤ c ∧ c ≤ 255) : ((by8 c).toNat : Int) = c := by
  unfold by8
  have := UInt8.toNat_ofNat_of_lt' (n := c.toNat) (by simp [UInt8.size]; omega)
  omega
theorem by8_lt {c d : Int} (hc : 0 ≤ c ∧ c ≤ 255) (hd : 0 ≤ d ∧ d ≤ 255) : (by8 c < by8 d) ↔ c < d := by
  have h1 := by8_nat hc
  have h2 := by8_nat hd
  rw [UInt8.lt_iff_toNat_lt]
  omega
theorem by8_inj {c d : Int} (hc : 0 ≤ c ∧ c ≤ 255) (hd : 0 ≤ d ∧ d ≤ 255) : by8 c = by8 d ↔ c = d := by
  have h1 := by8_nat hc
  have h2 := by8_nat hd
  constructor
  · intro h; rw [h] at h1; omega
  · intro h; rw [h]
theorem less_iff (L : List Int) : ∀ (M : List Int) (a : Int), L.length = M.length → (∀ c ∈ L, 65 ≤ c ∧ c ≤ 90) → (∀ c ∈ M, 65 ≤ c ∧ c ≤ 90) →
    (Op.bytesLess (L.map by8) (M.map by8) = true ↔ val a L < val a M) := by
  induction L with
  | nil =>
    intro M a hl _ _
    cases M with
    | nil => simp [Op.bytesLess, val]
    | cons _ _ => simp at hl
  | cons c cs ih =>
    intro M a hl h1 h2
    cases M with
    | nil => simp at hl
    | cons d ds =>
      have hc := h1 c (by simp)
      have hd := h2 d (by simp)
      have l1 : ∀ x ∈ cs, 65 ≤ x ∧ x ≤ 90 := fun x hx => h1 x (by simp [hx])
      have l2 : ∀ x ∈ ds, 65 ≤ x ∧ x ≤ 90 := fun x hx => h2 x (by simp [hx])
      have i1 : ∀ x ∈ cs, isL x := fun x hx => by have := l1 x hx; unfold isL; rw [up_of this]; exact this
      have i2 : ∀ x ∈ ds, isL x := fun x hx => by have := l2 x hx; unfold isL; rw [up_of this]; exact this
      have hl' : cs.length = ds.length := by simpa using hl
      have e1 : dig c = c - 64 := by unfold dig; rw [up_of hc]
      have e2 : dig d = d - 64 := by unfold dig; rw [up_of hd]
      have key := ih ds (26 * a + dig d) hl' l1 l2
      show (by8 c < by8 d || (by8 c == by8 d && Op.bytesLess (cs.map by8) (ds.map by8))) = true ↔ val (26 * a + dig c) cs < val (26 * a + dig d) ds
      rw [Bool.or_eq_true, Bool.and_eq_true, decide_eq_true_iff, by8_lt (by omega) (by omega), beq_iff_eq, by8_inj (by omega) (by omega), key]
      constructor
      · rintro (h | ⟨rfl, h⟩)
        · exact val_lt_of_acc cs ds _ _ hl' i1 i2 (by omega)
        · exact h
      · intro h
        by_cases hcd : c < d
        · exact Or.inl hcd
        · by_cases e : c = d
          · subst e; exact Or.inr ⟨rfl, h⟩
          · have := val_lt_of_acc ds cs (26 * a + dig d) (26 * a + dig c) hl'.symm i2 i1 (by omega)
            omega

/-! ### Strings of such lists -/
theorem toList_str (L : List Int) : (strOfNums L).toList = L.map by8 := by
  rw [ByteArray.toList_eq, strOfNums_data]; rfl
theorem bt_str (L : List Int) (h : ∀ c ∈ L, 0 ≤ c ∧ c ≤ 255) (i : Nat) (hi : i < L.length) : bt (strOfNums L) i = L[i] := by
  unfold bt
  have h1 : (i : Int).toNat < (strOfNums L).size := by rw [strOfNums_size]; simpa using hi
  rw [dif_pos h1]
  have e : (strOfNums L)[(i : Int).toNat]'h1 = by8 L[i] := by
    simp [strOfNums, ByteArray.getElem_eq_getElem_data, by8]
  rw [e]
  exact by8_nat (h _ (List.getElem_mem hi))
/-- A string's bytes as numbers. -/
def nm8 (s : ByteArray) : List Int := s.data.toList.map fun b => (b.toNat : Int)
theorem nm8_len (s : ByteArray) : (nm8 s).length = s.size := by unfold nm8; rw [List.length_map, Array.length_toList]; rfl
theorem nm8_at (s : ByteArray) (i : Nat) (h : i < s.size) : (nm8 s)[i]? = some (bt s i) := by
  unfold nm8 bt
  rw [dif_pos (show (i : Int).toNat < s.size by rw [Int.toNat_natCast]; exact h)]
  have h2 : i < s.data.toList.length := by rw [Array.length_toList]; exact h
  rw [List.getElem?_map, List.getElem?_eq_getElem h2]
  rfl
theorem nm8_range (s : ByteArray) : ∀ c ∈ nm8 s, 0 ≤ c ∧ c ≤ 255 := by
  intro c hc
  unfold nm8 at hc
  obtain ⟨b, _, rfl⟩ := List.mem_map.1 hc
  have := b.toNat_lt
  omega
theorem nm8_str (L : List Int) (h : ∀ c ∈ L, 0 ≤ c ∧ c ≤ 255) : nm8 (strOfNums L) = L := by
  unfold nm8
  rw [strOfNums_data, List.map_map]
  conv => rhs; rw [← List.map_id L]
  apply List.map_congr_left
  intro c hc
  exact by8_nat (h c hc)
end Go.Proofs.YthegckcffmlanaaDoor.Plain
