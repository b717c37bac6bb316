import Derived.Test.YthegckcffmlanaaDoorJoinWalk
namespace Go.Proofs.YthegckcffmlanaaDoor.Plain
open Go.RowKit Go.Proofs.YthegckcffmlanaaDoorW.PrintWords

/-! ### A list of great letters is the name of its number -/
theorem nameL_val : ∀ (n : Nat) (U : List Int), U.length = n → (∀ c ∈ U, 65 ≤ c ∧ c ≤ 90) → nameL (val 0 U).toNat = U := by
  intro n
  induction n with
  | zero =>
    intro U hn _
    have : U = [] := List.eq_nil_of_length_eq_zero hn
    subst this
    exact nameL_zero
  | succ n ih =>
    intro U hn h
    have hne : U ≠ [] := by intro e; rw [e] at hn; simp at hn
    obtain ⟨V, c, rfl⟩ : ∃ V c, U = V ++ [c] := ⟨U.dropLast, U.getLast hne, (List.dropLast_concat_getLast hne).symm⟩
    have hc := h c (by simp)
    have hV : ∀ x ∈ V, 65 ≤ x ∧ x ≤ 90 := fun x hx => h x (by simp [hx])
    have iV := ih V (by simpa using hn) hV
    have hge := val_ge V 0 (by omega) (fun x hx => by have := hV x hx; unfold isL; rw [up_of this]; exact this)
    have hd : dig c = c - 64 := by unfold dig; rw [up_of hc]
    rw [val_snoc, hd]
    rw [nameL_pos (by omega)]
    have e1 : ((26 * val 0 V + (c - 64)).toNat - 1) / 26 = (val 0 V).toNat := by omega
    have e2 : (65 : Int) + ((((26 * val 0 V + (c - 64)).toNat - 1) % 26 : Nat) : Int) = c := by omega
    rw [e1, e2, iV]
theorem val_up (L : List Int) : ∀ a : Int, (∀ c ∈ L, isL c) → val a (L.map up) = val a L := by
  induction L with
  | nil => intro a _; rfl
  | cons c cs ih =>
    intro a h
    have hc := h c (by simp)
    show val (26 * a + dig (up c)) (cs.map up) = val (26 * a + dig c) cs
    rw [ih _ (fun x hx => h x (by simp [hx]))]
    unfold dig
    rw [up_of hc]
/-- A name in great letters. -/
theorem upper_name (s : ByteArray) (h : ∀ c ∈ nm8 s, isL c) : (⟨(Lib.toUpperA s.data.toList).toArray⟩ : ByteArray) = strOfNums (nameL (val 0 (nm8 s)).toNat) := by
  have hU : ∀ c ∈ (nm8 s).map up, 65 ≤ c ∧ c ≤ 90 := fun c hc => by
    obtain ⟨x, hx, rfl⟩ := List.mem_map.1 hc
    exact h x hx
  have := nameL_val _ ((nm8 s).map up) rfl hU
  rw [val_up _ _ h] at this
  rw [this]
  unfold strOfNums Lib.toUpperA nm8
  rw [List.map_map, List.map_map]
  congr 2
  apply List.map_congr_left
  intro b _
  have hb := b.toNat_lt
  show Lib.upperB b = UInt8.ofNat (up (b.toNat : Int)).toNat
  unfold Lib.upperB Lib.isLowerB up
  by_cases c : 97 ≤ b.toNat ∧ b.toNat ≤ 122
  · have c1 : (97 : UInt8) ≤ b := by rw [UInt8.le_iff_toNat_le]; exact c.1
    have c2 : b ≤ (122 : UInt8) := by rw [UInt8.le_iff_toNat_le]; exact c.2
    rw [if_pos (by simp [c1, c2]), if_pos (by omega)]
    apply UInt8.toNat_inj.1
    rw [UInt8.toNat_sub_of_le _ _ (by rw [UInt8.le_iff_toNat_le]; show 32 ≤ b.toNat; omega)]
    have e := UInt8.toNat_ofNat_of_lt' (n := ((b.toNat : Int) - 32).toNat) (by simp [UInt8.size]; omega)
    rw [e]
    show b.toNat - 32 = _
    omega
  · rw [if_neg (by
      simp only [Bool.and_eq_true, decide_eq_true_eq, UInt8.le_iff_toNat_le]
      exact fun h => c h), if_neg (by omega), Int.toNat_natCast]
    exact (UInt8.ofNat_toNat).symm
theorem ascii_of (s : ByteArray) (h : ∀ c ∈ nm8 s, isL c) : ∀ (j : Nat) (c : UInt8), s.data.toList[j]? = some c → c.toNat < 128 := by
  intro j c hj
  have hm : ((c.toNat : Nat) : Int) ∈ nm8 s := by
    unfold nm8
    exact List.mem_map.2 ⟨c, List.mem_of_getElem? hj, rfl⟩
  have := h _ hm
  unfold isL up at this
  split at this <;> omega

/-! ### Digits -/
theorem digits (n : Nat) : n ≤ 1048576 → ∀ k : Nat, n < k → Spec.spec_Digits.f k n 10 = some ⟨(Lib.decDigits n).toArray⟩ := by
  induction n using Nat.strongRecOn with
  | ind n ih =>
    intro hn k hk
    obtain ⟨k, rfl⟩ : ∃ m, k = m + 1 := ⟨k - 1, by omega⟩
    have hm : Int.tmod (n : Int) 10 = ((n % 10 : Nat) : Int) := by rw [Int.tmod_eq_emod_of_nonneg (by omega)]; omega
    have hd : wrap64 (Int.tdiv (n : Int) 10) = ((n / 10 : Nat) : Int) := by rw [Int.tdiv_eq_ediv_of_nonneg (by omega), w64 (by omega) (by omega)]; omega
    have hw : wrap64 (((n % 10 : Nat) : Int) + 1) = ((n % 10 + 1 : Nat) : Int) := by rw [w64 (by omega) (by omega)]; omega
    have hone : ∀ j : Nat, j < 10 → (⟨#[48, 49, 50, 51, 52, 53, 54, 55, 56, 57, 65, 66, 67, 68, 69, 70, 71, 72, 73, 74, 75, 76, 77, 78, 79, 80, 81, 82, 83, 84, 85, 86, 87, 88, 89, 90]⟩ : ByteArray).extract j (j + 1) = ⟨[UInt8.ofNat (48 + j)].toArray⟩ := by decide
    simp only [Spec.spec_Digits.f]
    rw [if_neg (by omega), hm, hw, Int.toNat_natCast, Int.toNat_natCast, hone (n % 10) (by omega), hd, if_pos (by omega), if_pos (by omega), if_pos (by omega)]
    by_cases h : n < 10
    · rw [if_pos (by omega), Lib.decDigits, dif_pos h, Nat.mod_eq_of_lt h]
    · rw [if_neg (by omega), ih (n / 10) (by omega) (by omega) k (by omega)]
      simp only [Option.bind_some]
      have hl := decLen (n / 10)
      rw [if_pos (by simp [ByteArray.size]; omega)]
      conv => rhs; rw [Lib.decDigits, dif_neg h]
      rw [← List.append_toArray]
      congr 1
      apply ByteArray.ext
      rw [ByteArray.data_append]
theorem digits_itoa (row : Int) (h0 : 0 ≤ row) (h1 : row ≤ 1048576) : ∃ k, Spec.spec_Digits.f k row 10 = some ⟨(Lib.itoa row).toArray⟩ := by
  obtain ⟨n, rfl⟩ : ∃ n : Nat, row = n := ⟨row.toNat, by omega⟩
  refine ⟨n + 1, ?_⟩
  unfold Lib.itoa
  rw [if_neg (by omega), Int.toNat_natCast]
  exact digits n (by omega) _ (by omega)
end Go.Proofs.YthegckcffmlanaaDoor.Plain
