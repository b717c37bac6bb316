import Derived.Test.YthegckcffmlanaaDoorEnv
import Derived.Lib.MapLaws
import Derived.Lib.TrimAscii
namespace Go.Proofs.YthegckcffmlanaaDoor.Plain
open Go.RowKit Go.Lib Go.Proofs.YthegckcffmlanaaDoorW.PrintWords

/-- A letter or a dollar. -/
def alphaN (r : Nat) : Bool := (decide (65 ≤ r) && decide (r ≤ 90)) || (decide (97 ≤ r) && decide (r ≤ 122)) || decide (r = 36)
theorem alphaN_lt {r : Nat} (h : alphaN r = true) : r < 128 := by
  unfold alphaN at h
  simp only [Bool.or_eq_true, Bool.and_eq_true, decide_eq_true_iff] at h
  omega
theorem alphaN_high {r : Nat} (h : 128 ≤ r) : alphaN r = false := by
  rw [Bool.eq_false_iff]
  intro hh
  have := alphaN_lt hh
  omega
theorem alphaN_no {r : Nat} (h1 : ¬ (65 ≤ r ∧ r ≤ 90)) (h2 : ¬ (97 ≤ r ∧ r ≤ 122)) (h3 : r ≠ 36) : alphaN r = false := by
  rw [Bool.eq_false_iff]
  intro h
  unfold alphaN at h
  simp only [Bool.or_eq_true, Bool.and_eq_true, decide_eq_true_iff] at h
  omega
theorem decN_high (n b0 b1 b2 b3 : Nat) (h : 128 ≤ b0) : 128 ≤ (decodeN n b0 b1 b2 b3).1 := by
  rcases decodeN_shape n b0 b1 b2 b3 with h1 | ⟨_, _, _, _, h1⟩ | ⟨_, _, _, _, _, _, h1⟩ | ⟨_, _, _, _, _, _, _, h1⟩ | h1
  · omega
  all_goals (rw [h1]; simp only; omega)
/-- What a wide rune takes has no byte below 128. -/
theorem decN_wide (n b0 b1 b2 b3 : Nat) (h : 128 ≤ b0) : (2 ≤ (decodeN n b0 b1 b2 b3).2 → 128 ≤ b1) ∧ (3 ≤ (decodeN n b0 b1 b2 b3).2 → 128 ≤ b2) ∧ (4 ≤ (decodeN n b0 b1 b2 b3).2 → 128 ≤ b3) ∧ (decodeN n b0 b1 b2 b3).2 ≤ 4 := by
  rcases decodeN_shape n b0 b1 b2 b3 with h1 | ⟨_, _, _, _, h1⟩ | ⟨_, _, _, _, _, _, h1⟩ | ⟨_, _, _, _, _, _, _, h1⟩ | h1
  · omega
  all_goals (rw [h1]; simp only; omega)
theorem sz_list (s : ByteArray) : s.size = s.data.toList.length := by rw [Array.length_toList]; rfl
/-! ### IndexFunc: is the first byte a letter or a dollar? -/
theorem idx_yes (s : ByteArray) (b : UInt8) (t : List UInt8) (hs : s.data.toList = b :: t) (hb : alphaN b.toNat = true) : idxFunc alphaN true s = 0 := by
  have hsz : s.size = t.length + 1 := by rw [sz_list, hs]; rfl
  unfold idxFunc
  rw [hsz]
  unfold idxFuncFrom
  have hd : (Utf8.decode s 0).1 = b.toNat := by
    rw [decode_N, hs]
    show (decodeN _ b.toNat _ _ _).1 = _
    rw [decodeN_ascii _ _ _ _ _ (alphaN_lt hb)]
  rw [if_pos (by omega), hd, if_pos hb]
  rfl
theorem idx_no (s : ByteArray) (h : ∀ b t, s.data.toList = b :: t → alphaN b.toNat = false) : idxFunc alphaN true s ≠ 0 := by
  unfold idxFunc
  cases hl : s.data.toList with
  | nil =>
    have hsz : s.size = 0 := by rw [sz_list, hl]; rfl
    rw [hsz]
    unfold idxFuncFrom
    decide
  | cons b t =>
    have hb := h b t hl
    have hsz : s.size = t.length + 1 := by rw [sz_list, hl]; rfl
    rw [hsz]
    unfold idxFuncFrom
    have hd : alphaN (Utf8.decode s 0).1 = false := by
      rw [decode_N, hl]
      show alphaN (decodeN _ b.toNat _ _ _).1 = false
      by_cases hlt : b.toNat < 128
      · rw [decodeN_ascii _ _ _ _ _ hlt]; exact hb
      · exact alphaN_high (decN_high _ _ _ _ _ (by omega))
    rw [if_pos (by omega), hd, if_neg (by decide), Nat.zero_add]
    have hw := width_pos s 0
    rcases idxFuncFrom_range alphaN true s t.length (Utf8.decode s 0).2 with h1 | h1
    · rw [h1]; decide
    · omega
/-! ### LastIndexFunc: the last letter or dollar -/
theorem last_run (s : ByteArray) (C : Nat) (hR : ∀ j, C ≤ j → j < s.data.toList.length → alphaN (s.data.toList.getD j 0).toNat = false)
    (hE : C = 0 ∨ alphaN (s.data.toList.getD (C - 1) 0).toNat = true) (i : Nat) : ∀ f : Nat, C ≤ i → i ≤ s.data.toList.length → i ≤ f → lastIdxFuncFrom alphaN true s f i = (C : Int) - 1 := by
  induction i using Nat.strongRecOn with
  | ind i ih =>
    intro f hCi hi hf
    by_cases h0 : i = 0
    · subst h0
      rw [lastIdxFuncFrom_zero]
      omega
    · obtain ⟨f, rfl⟩ : ∃ m, f = m + 1 := ⟨f - 1, by omega⟩
      unfold lastIdxFuncFrom
      rw [if_pos (by omega)]
      generalize hl : s.data.toList = l at *
      have hlen : (l.take i).length = i := by rw [List.length_take]; omega
      have hlast : (l.take i).getD ((l.take i).length - 1) 0 = l.getD (i - 1) 0 := by
        rw [hlen]
        simp only [List.getD, List.getElem?_take]
        rw [if_pos (by omega)]
      by_cases hlt : (l.getD (i - 1) 0).toNat < 128
      · have hd : decodeLastL (l.take i) = ((l.getD (i - 1) 0).toNat, 1) := by
          unfold decodeLastL
          rw [if_neg (by intro e; rw [e] at hlen; simp at hlen; omega), hlast, if_pos hlt]
        rw [hd]
        by_cases hCe : C = i
        · have hp : alphaN (l.getD (i - 1) 0).toNat = true := by
            rcases hE with hE | hE
            · omega
            · rw [hCe] at hE; exact hE
          simp only
          rw [if_pos hp]
          omega
        · have hp := hR (i - 1) (by omega) (by omega)
          simp only
          rw [hp, if_neg (by decide)]
          exact ih (i - 1) (by omega) f (by omega) (by omega) (by omega)
      · have hCe : C ≠ i := by
          intro e
          rcases hE with hE | hE
          · omega
          · rw [e] at hE; exact hlt (alphaN_lt hE)
        have hw := decodeLastL_width (l.take i) (by rw [hlen]; omega)
        have key : 128 ≤ (decodeLastL (l.take i)).1 ∧ C ≤ i - (decodeLastL (l.take i)).2 := by
          unfold decodeLastL
          rw [if_neg (by intro e; rw [e] at hlen; simp at hlen; omega), hlast, if_neg hlt]
          simp only
          by_cases hst : lastStart (l.take i) + (decodeL ((l.take i).drop (lastStart (l.take i)))).2 = (l.take i).length
          · rw [if_pos hst]
            rw [hlen] at hst
            generalize hk : lastStart (l.take i) = k at *
            have hat : ∀ j, k + j < i → ((l.take i).drop k).getD j 0 = l.getD (k + j) 0 := by
              intro j hj
              simp only [List.getD, List.getElem?_drop, List.getElem?_take]
              rw [if_pos hj]
            have hN := decodeL_N ((l.take i).drop k)
            have hwid := decodeL_width ((l.take i).drop k)
            by_cases hb0 : (((l.take i).drop k).getD 0 0).toNat < 128
            · rw [decodeN_ascii _ _ _ _ _ hb0] at hN
              rw [hN] at hst
              have e : k = i - 1 := by simp only at hst; omega
              rw [hat 0 (by omega), e] at hb0
              exact absurd hb0 hlt
            · rw [hN]
              refine ⟨decN_high _ _ _ _ _ (by omega), ?_⟩
              rw [← hN]
              have hwide := decN_wide ((l.take i).drop k).length (((l.take i).drop k).getD 0 0).toNat (((l.take i).drop k).getD 1 0).toNat (((l.take i).drop k).getD 2 0).toNat (((l.take i).drop k).getD 3 0).toNat (by omega)
              rw [← hN] at hwide
              obtain ⟨w1, w2, w3, w4⟩ := hwide
              have hki : i - (decodeL ((l.take i).drop k)).2 = k := by omega
              rw [hki]
              rcases hE with hE | hE
              · omega
              · have hEl := alphaN_lt hE
                -- the last letter stands before the rune
                by_cases hCk : C ≤ k
                · exact hCk
                · exfalso
                  obtain ⟨j, hj⟩ : ∃ j, C - 1 = k + j := ⟨C - 1 - k, by omega⟩
                  have hj4 : j < 4 := by omega
                  have hjw : j < (decodeL ((l.take i).drop k)).2 := by omega
                  rw [hj] at hEl
                  have e0 := hat j (by omega)
                  have : j = 0 ∨ j = 1 ∨ j = 2 ∨ j = 3 := by omega
                  rcases this with rfl | rfl | rfl | rfl
                  · rw [e0] at hb0; exact hb0 hEl
                  · rw [e0] at w1; have := w1 (by omega); omega
                  · rw [e0] at w2; have := w2 (by omega); omega
                  · rw [e0] at w3; have := w3 (by omega); omega
          · rw [if_neg hst]
            exact ⟨by decide, by simp only; omega⟩
        rw [alphaN_high key.1, if_neg (by decide)]
        exact ih _ (by omega) f key.2 (by omega) (by omega)
theorem last_eq (s : ByteArray) (C : Nat) (hC : C ≤ s.data.toList.length) (hR : ∀ j, C ≤ j → j < s.data.toList.length → alphaN (s.data.toList.getD j 0).toNat = false)
    (hE : C = 0 ∨ alphaN (s.data.toList.getD (C - 1) 0).toNat = true) : lastIdxFunc alphaN true s = (C : Int) - 1 := by
  unfold lastIdxFunc
  rw [sz_list]
  exact last_run s C hR hE _ _ hC (Nat.le_refl _) (Nat.le_refl _)
end Go.Proofs.YthegckcffmlanaaDoor.Plain
