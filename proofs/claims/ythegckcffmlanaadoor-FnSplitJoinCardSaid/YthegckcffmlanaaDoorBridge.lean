import Derived.Test.YthegckcffmlanaaDoorPlain
namespace Go.Proofs.YthegckcffmlanaaDoor.Plain
open Go.RowKit Go.Proofs.YthegckcffmlanaaDoorW.PrintWords

theorem w64 {n : Int} (h0 : -9223372036854775808 ≤ n) (h1 : n ≤ 9223372036854775807) : wrap64 n = n := IntWalk.wrap64_in n ⟨h0, h1⟩

theorem ite_isL {α : Type} (c : Int) (p q : α) : (if isL c then p else q) = (if 65 ≤ up c ∧ up c ≤ 90 then p else q) := rfl

/-! ### spec.ColumnNumber -/
/-- All are letters, and the number is a column's. -/
def okL (a : Int) (R : List Int) : Bool := R.all (fun c => decide (isL c)) && decide (val a R ≤ 16384)
theorem okL_iff (a : Int) (R : List Int) : okL a R = true ↔ (∀ c ∈ R, isL c) ∧ val a R ≤ 16384 := by
  unfold okL
  rw [Bool.and_eq_true, List.all_eq_true, decide_eq_true_iff]
  simp only [decide_eq_true_iff]
theorem okL_cons (a c : Int) (cs : List Int) (_ha : 0 ≤ a) : okL a (c :: cs) = if isL c then (if 16384 < 26 * a + dig c then false else okL (26 * a + dig c) cs) else false := by
  by_cases h : isL c
  · rw [if_pos h]
    have hd := dig_of h
    by_cases h2 : 16384 < 26 * a + dig c
    · rw [if_pos h2, Bool.eq_false_iff]
      intro hk
      obtain ⟨k1, k2⟩ := (okL_iff _ _).1 hk
      have := val_ge cs (26 * a + dig c) (by omega) (fun x hx => k1 x (by simp [hx]))
      have e : val a (c :: cs) = val (26 * a + dig c) cs := rfl
      omega
    · rw [if_neg h2, Bool.eq_iff_iff, okL_iff, okL_iff]
      constructor
      · rintro ⟨k1, k2⟩; exact ⟨fun x hx => k1 x (by simp [hx]), k2⟩
      · rintro ⟨k1, k2⟩
        refine ⟨fun x hx => ?_, k2⟩
        rcases List.mem_cons.1 hx with rfl | hx
        · exact h
        · exact k1 x hx
  · rw [if_neg h, Bool.eq_false_iff]
    intro hk
    exact h (((okL_iff _ _).1 hk).1 c (by simp))
theorem specNum_step (k : Nat) (s : ByteArray) (a i : Int) (h0 : 0 ≤ i) (h1 : i < s.size) (hs : s.size ≤ 9223372036854775807) (ha : 0 ≤ a) (ha2 : a ≤ 16384) :
    PFnCellText.spec_ColumnNumber.l0 (k + 4) s a i = if isL (bt s i) then (if 16384 < 26 * a + dig (bt s i) then some (0, false) else PFnCellText.spec_ColumnNumber.l0 k s (26 * a + dig (bt s i)) (i + 1)) else some (0, false) := by
  have hb := bt_range s i
  have e1 : wrap64 (i + 1) = i + 1 := w64 (by omega) (by omega)
  have step : ∀ (x : Int), 0 ≤ x → x ≤ 255 → PFnCellText.spec_ColumnNumber.j2 (k + 2) s a i x = if 65 ≤ x ∧ x ≤ 90 then (if 16384 < 26 * a + (x - 64) then some (0, false) else PFnCellText.spec_ColumnNumber.l0 k s (26 * a + (x - 64)) (i + 1)) else some (0, false) := by
    intro x hx0 hx1
    have e : wrap64 (wrap64 (wrap64 (26 * a) + (x - 65) % 256) + 1) = 26 * a + ((x - 65) % 256 + 1) := by
      rw [w64 (n := 26 * a) (by omega) (by omega), w64 (n := 26 * a + (x - 65) % 256) (by omega) (by omega), w64 (by omega) (by omega)]
      omega
    have j3t : PFnCellText.spec_ColumnNumber.j3 (k + 1) s a i x true = some (0, false) := by simp only [PFnCellText.spec_ColumnNumber.j3, if_true]
    have j3f : PFnCellText.spec_ColumnNumber.j3 (k + 1) s a i x false = if 16384 < 26 * a + ((x - 65) % 256 + 1) then some (0, false) else PFnCellText.spec_ColumnNumber.l0 k s (26 * a + ((x - 65) % 256 + 1)) (i + 1) := by
      simp only [PFnCellText.spec_ColumnNumber.j3]
      rw [if_neg (by decide), e, e1]
    simp only [PFnCellText.spec_ColumnNumber.j2]
    by_cases c1 : x < 65
    · rw [if_pos c1, j3t, if_neg (by omega)]
    · rw [if_neg c1]
      by_cases c2 : x > 90
      · rw [decide_eq_true c2, j3t, if_neg (by omega)]
      · rw [decide_eq_false c2, j3f, if_pos (show 65 ≤ x ∧ x ≤ 90 by omega)]
        have e5 : (x - 65) % 256 + 1 = x - 64 := by omega
        rw [e5]
  have j1t : ∀ x : Int, PFnCellText.spec_ColumnNumber.j1 (k + 3) s a i x true = PFnCellText.spec_ColumnNumber.j2 (k + 2) s a i (((x - 97) % 256 + 65) % 256) := fun x => by simp only [PFnCellText.spec_ColumnNumber.j1, if_true]
  have j1f : ∀ x : Int, PFnCellText.spec_ColumnNumber.j1 (k + 3) s a i x false = PFnCellText.spec_ColumnNumber.j2 (k + 2) s a i x := fun x => by
    simp only [PFnCellText.spec_ColumnNumber.j1]
    rw [if_neg (by decide)]
  simp only [PFnCellText.spec_ColumnNumber.l0]
  rw [if_pos h1, if_pos h0]
  by_cases c : 97 ≤ bt s i ∧ bt s i ≤ 122
  · rw [if_pos c.1]
    have e : ((bt s i - 97) % 256 + 65) % 256 = bt s i - 32 := by omega
    have eu : up (bt s i) = bt s i - 32 := by unfold up; rw [if_pos c]
    rw [decide_eq_true c.2, j1t, e, step _ (by omega) (by omega), ite_isL]
    unfold dig
    rw [eu]
  · have e2 : (if bt s i ≥ 97 then PFnCellText.spec_ColumnNumber.j1 (k + 3) s a i (bt s i) (decide (bt s i ≤ 122)) else PFnCellText.spec_ColumnNumber.j1 (k + 3) s a i (bt s i) false) = PFnCellText.spec_ColumnNumber.j1 (k + 3) s a i (bt s i) false := by
      by_cases c3 : bt s i ≥ 97
      · rw [if_pos c3, decide_eq_false (by omega)]
      · rw [if_neg c3]
    have eu : up (bt s i) = bt s i := by unfold up; rw [if_neg c]
    rw [e2, j1f, step _ (by omega) (by omega), ite_isL]
    unfold dig
    rw [eu]
theorem drop_cons (s : ByteArray) (i : Nat) (h : i < s.size) : (nm8 s).drop i = bt s i :: (nm8 s).drop (i + 1) := by
  have h1 := nm8_at s i h
  have h2 : i < (nm8 s).length := by rw [nm8_len]; exact h
  rw [List.drop_eq_getElem_cons h2]
  rw [List.getElem?_eq_getElem h2] at h1
  injection h1 with h1
  rw [h1]
theorem specNum_run (s : ByteArray) (hs : s.size ≤ 9223372036854775807) (d : Nat) : ∀ (k i : Nat) (a : Int), i + d = s.size → 0 ≤ a → a ≤ 16384 → 4 * d < k →
    PFnCellText.spec_ColumnNumber.l0 k s a i = some (if okL a ((nm8 s).drop i) then (val a ((nm8 s).drop i), decide (0 < val a ((nm8 s).drop i))) else (0, false)) := by
  induction d with
  | zero =>
    intro k i a hi ha ha2 hk
    obtain ⟨k, rfl⟩ : ∃ m, k = m + 1 := ⟨k - 1, by omega⟩
    have e : (nm8 s).drop i = [] := List.drop_eq_nil_of_le (by rw [nm8_len]; omega)
    rw [e]
    have e2 : okL a [] = true := (okL_iff _ _).2 ⟨by simp, ha2⟩
    rw [e2, if_pos rfl]
    simp only [PFnCellText.spec_ColumnNumber.l0]
    rw [if_neg (by omega)]
    rfl
  | succ d ih =>
    intro k i a hi ha ha2 hk
    obtain ⟨k, rfl⟩ : ∃ m, k = m + 4 := ⟨k - 4, by omega⟩
    rw [specNum_step k s a i (by omega) (by omega) hs ha ha2, drop_cons s i (by omega), okL_cons _ _ _ ha]
    by_cases c : isL (bt s i)
    · have hd := dig_of c
      rw [if_pos c, if_pos c]
      by_cases c2 : 16384 < 26 * a + dig (bt s i)
      · rw [if_pos c2, if_pos c2]; rfl
      · rw [if_neg c2, if_neg c2]
        exact ih k (i + 1) (26 * a + dig (bt s i)) (by omega) (by omega) (by omega) (by omega)
    · rw [if_neg c, if_neg c]; rfl
theorem specNum (s : ByteArray) (hs : s.size ≤ 9223372036854775807) : ∃ k, PFnCellText.spec_ColumnNumber.f k s = some (if okL 0 (nm8 s) then (val 0 (nm8 s), decide (0 < val 0 (nm8 s))) else (0, false)) :=
  ⟨4 * s.size + 1, specNum_run s hs s.size _ 0 0 (by omega) (by omega) (by omega) (by omega)⟩

/-! ### excelize.ColumnNameToNumber -/
theorem take_snoc8 (s : ByteArray) (i : Nat) (h : i < s.size) : (nm8 s).take (i + 1) = (nm8 s).take i ++ [bt s i] := by
  have h1 := nm8_at s i h
  have h2 : i < (nm8 s).length := by rw [nm8_len]; exact h
  rw [List.take_succ_eq_append_getElem h2]
  rw [List.getElem?_eq_getElem h2] at h1
  injection h1 with h1
  rw [h1]
theorem nm_step (k : Nat) (s : ByteArray) (c m : Int) (i : Nat) (hc : 0 ≤ c) (hc2 : c ≤ 16384) (hm : 1 ≤ m) (hm2 : m ≤ 425984) :
    nm (k + 1) s c m i = if isL (bt s i) then (if 16384 < c + dig (bt s i) * m then some (-1, false) else nm k s (c + dig (bt s i) * m) (m * 26) (i - 1)) else some (-1, false) := by
  have hb := bt_range s i
  have key : ∀ x : Int, 1 ≤ x → x ≤ 26 → wrap64 (c + wrap64 (x * m)) = c + x * m := by
    intro x h1 h2
    have a1 : 0 ≤ x * m := Int.mul_nonneg (by omega) (by omega)
    have a2 : x * m ≤ 26 * m := Int.mul_le_mul_of_nonneg_right h2 (by omega)
    rw [w64 (n := x * m) (by omega) (by omega), w64 (by omega) (by omega)]
  have e26 : wrap64 (m * 26) = m * 26 := w64 (by omega) (by omega)
  simp only [nm]
  rw [if_pos (by omega)]
  by_cases c1 : 65 ≤ bt s i ∧ bt s i ≤ 90
  · rw [if_pos c1, key _ (by omega) (by omega), e26]
    rw [ite_isL]
    unfold dig
    rw [up_of c1, if_pos c1]
    have e : bt s i - 65 + 1 = bt s i - 64 := by omega
    rw [e]
  · rw [if_neg c1]
    by_cases c2 : 97 ≤ bt s i ∧ bt s i ≤ 122
    · rw [if_pos c2, key _ (by omega) (by omega), e26]
      have e0 : up (bt s i) = bt s i - 32 := by unfold up; rw [if_pos c2]
      rw [ite_isL]
      unfold dig
      rw [e0, if_pos (show 65 ≤ bt s i - 32 ∧ bt s i - 32 ≤ 90 by omega)]
      have e : bt s i - 97 + 1 = bt s i - 32 - 64 := by omega
      rw [e]
    · have e0 : up (bt s i) = bt s i := by unfold up; rw [if_neg c2]
      rw [if_neg c2, if_neg (by unfold isL; rw [e0]; exact c1)]
theorem nm_run (s : ByteArray) (j : Nat) : ∀ (k : Nat) (c m : Int), j ≤ s.size → j < k → 0 ≤ c → c ≤ 16384 → 1 ≤ m → m ≤ 425984 →
    nm k s c m ((j : Int) - 1) = some (if (∀ x ∈ (nm8 s).take j, isL x) ∧ c + m * val 0 ((nm8 s).take j) ≤ 16384 then (c + m * val 0 ((nm8 s).take j), true) else (-1, false)) := by
  induction j with
  | zero =>
    intro k c m _ hk hc hc2 hm hm2
    obtain ⟨k, rfl⟩ : ∃ m, k = m + 1 := ⟨k - 1, by omega⟩
    simp only [nm]
    rw [if_neg (by omega)]
    simp [val, hc2]
  | succ j ih =>
    intro k c m hj hk hc hc2 hm hm2
    obtain ⟨k, rfl⟩ : ∃ m, k = m + 1 := ⟨k - 1, by omega⟩
    have ej : ((j + 1 : Nat) : Int) - 1 = (j : Nat) := by omega
    rw [ej, nm_step k s c m j hc hc2 hm hm2, take_snoc8 s j (by omega), val_snoc]
    have hd : c + m * (26 * val 0 ((nm8 s).take j) + dig (bt s j)) = (c + dig (bt s j) * m) + (m * 26) * val 0 ((nm8 s).take j) := by
      rw [Int.mul_add, Int.mul_comm m (dig (bt s j)), ← Int.mul_assoc, Int.add_comm (m * 26 * _), Int.add_assoc]
    rw [hd]
    have hall : (∀ x ∈ (nm8 s).take j ++ [bt s j], isL x) ↔ (∀ x ∈ (nm8 s).take j, isL x) ∧ isL (bt s j) := by
      constructor
      · intro h; exact ⟨fun x hx => h x (by simp [hx]), h _ (by simp)⟩
      · rintro ⟨h1, h2⟩ x hx
        rcases List.mem_append.1 hx with hx | hx
        · exact h1 x hx
        · rw [List.mem_singleton.1 hx]; exact h2
    by_cases c1 : isL (bt s j)
    · have hdg := dig_of c1
      rw [if_pos c1]
      have hge : m ≤ dig (bt s j) * m := by
        have := Int.mul_le_mul_of_nonneg_right hdg.1 (by omega : (0 : Int) ≤ m)
        omega
      by_cases c2 : 16384 < c + dig (bt s j) * m
      · rw [if_pos c2, if_neg]
        rintro ⟨h1, h2⟩
        have h3 := (hall.1 h1).1
        have h4 := val_ge ((nm8 s).take j) 0 (by omega) h3
        have h5 : 0 ≤ m * 26 * val 0 ((nm8 s).take j) := Int.mul_nonneg (by omega) h4
        omega
      · rw [if_neg c2, ih k (c + dig (bt s j) * m) (m * 26) (by omega) (by omega) (by omega) (by omega) (by omega) (by omega)]
        by_cases c3 : (∀ x ∈ (nm8 s).take j, isL x) ∧ c + dig (bt s j) * m + m * 26 * val 0 ((nm8 s).take j) ≤ 16384
        · rw [if_pos c3, if_pos ⟨hall.2 ⟨c3.1, c1⟩, c3.2⟩]
        · rw [if_neg c3, if_neg (fun h => c3 ⟨(hall.1 h.1).1, h.2⟩)]
    · rw [if_neg c1, if_neg (fun h => c1 (hall.1 h.1).2)]
/-- Every text: what the package's function answers. -/
theorem nmR_all (s : ByteArray) : NmR s (if okL 0 (nm8 s) = true ∧ 0 < val 0 (nm8 s) then val 0 (nm8 s) else -1) (okL 0 (nm8 s) && decide (0 < val 0 (nm8 s))) := by
  by_cases h : s.size = 0
  · have e : nm8 s = [] := List.eq_nil_of_length_eq_zero (by rw [nm8_len]; exact h)
    rw [e]
    exact Or.inl ⟨h, by simp [val], by simp [val]⟩
  · refine Or.inr ⟨by omega, s.size + 1, ?_⟩
    have := nm_run s s.size (s.size + 1) 0 1 (by omega) (by omega) (by omega) (by omega) (by omega) (by omega)
    rw [this]
    have e : (nm8 s).take s.size = nm8 s := List.take_of_length_le (by rw [nm8_len]; omega)
    rw [e]
    have hne : nm8 s ≠ [] := fun h0 => h (by rw [← nm8_len, h0]; rfl)
    have e1 : (0 : Int) + 1 * val 0 (nm8 s) = val 0 (nm8 s) := by omega
    rw [e1]
    by_cases c : okL 0 (nm8 s) = true
    · have c2 := (okL_iff _ _).1 c
      have hp := val_pos _ hne c2.1
      rw [if_pos c2, if_pos ⟨c, by omega⟩, c, decide_eq_true (by omega)]
      rfl
    · rw [if_neg (fun h => c ((okL_iff _ _).2 h)), if_neg (fun h => c h.1), Bool.eq_false_iff.2 c]
      rfl
end Go.Proofs.YthegckcffmlanaaDoor.Plain
