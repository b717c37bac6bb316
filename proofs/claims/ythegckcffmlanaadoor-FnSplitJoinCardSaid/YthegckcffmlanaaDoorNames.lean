import Derived.Test.YthegckcffmlanaaDoorBridge
import Derived.Test.YthegckcffmlanaaDoorSpecs
namespace Go.Proofs.YthegckcffmlanaaDoor.Plain
open Go.RowKit Go.Proofs.YthegckcffmlanaaDoorW.PrintWords

/-! ### zzColumnName -/
theorem step26 {n : Int} (h : 1 ≤ n) (h2 : n ≤ 16384) : wrap64 (Int.tdiv (wrap64 (n - 1)) 26) = (n - 1) / 26 := by
  rw [w64 (n := n - 1) (by omega) (by omega), Int.tdiv_eq_ediv_of_nonneg (by omega), w64 (by omega) (by omega)]
theorem mod26 {n : Int} (h : 1 ≤ n) (h2 : n ≤ 16384) : Int.tmod (wrap64 (n - 1)) 26 = (n - 1) % 26 := by
  rw [w64 (n := n - 1) (by omega) (by omega), Int.tmod_eq_emod_of_nonneg (by omega)]
theorem nat26 {m : Nat} (h : m ≠ 0) : ((m : Int) - 1) / 26 = (((m - 1) / 26 : Nat) : Int) := by omega
theorem nat26m {m : Nat} (h : m ≠ 0) : ((m : Int) - 1) % 26 = (((m - 1) % 26 : Nat) : Int) := by omega
theorem len_pos {m : Nat} (h : m ≠ 0) : (nameL m).length = (nameL ((m - 1) / 26)).length + 1 := by rw [nameL_pos h]; simp
theorem zz_l0 (x0 : Int) (j : Nat) (m : Nat) : ∀ c : Nat, m ≤ 16384 → c + m ≤ 16384 →
    PFnCellName.excelize_zzColumnName.l0 ((nameL m).length + 1 + j) x0 c m = PFnCellName.excelize_zzColumnName.l1 j x0 ((c + (nameL m).length : Nat) : Int) (List.replicate (c + (nameL m).length) 0) := by
  induction m using Nat.strongRecOn with
  | ind m ih =>
    intro c hm hc
    by_cases h : m = 0
    · subst h
      have e : (nameL 0).length + 1 + j = j + 1 := by rw [nameL_zero]; simp; omega
      rw [e]
      simp only [PFnCellName.excelize_zzColumnName.l0]
      rw [if_neg (by omega), if_pos (by omega), if_pos (by omega), nameL_zero]
      simp
    · have hl := len_pos h
      have e : (nameL m).length + 1 + j = ((nameL ((m - 1) / 26)).length + 1 + j) + 1 := by omega
      have hb := nameL_len_le ((m - 1) / 26)
      rw [e]
      simp only [PFnCellName.excelize_zzColumnName.l0]
      rw [if_pos (by omega), step26 (by omega) (by omega), nat26 h, w64 (by omega) (by omega)]
      have ec : (c : Int) + 1 = ((c + 1 : Nat) : Int) := by omega
      rw [ec]
      rw [ih ((m - 1) / 26) (by omega) (c + 1) (by omega) (by omega)]
      have e2 : c + 1 + (nameL ((m - 1) / 26)).length = c + (nameL m).length := by omega
      rw [e2]
theorem set_last (l : Nat) (suf : List Int) (v : Int) : (List.replicate (l + 1) 0 ++ suf).set l v = List.replicate l 0 ++ v :: suf := by
  rw [List.replicate_succ', List.append_assoc, List.set_append_right _ _ (by simp)]
  simp
theorem zz_l1 (j : Nat) (m : Nat) : ∀ suf : List Int, m ≤ 16384 →
    PFnCellName.excelize_zzColumnName.l1 ((nameL m).length + 1 + j) m ((nameL m).length : Nat) (List.replicate (nameL m).length 0 ++ suf) = some (strOfNums (nameL m ++ suf)) := by
  induction m using Nat.strongRecOn with
  | ind m ih =>
    intro suf hm
    by_cases h : m = 0
    · subst h
      have e : (nameL 0).length + 1 + j = j + 1 := by rw [nameL_zero]; simp; omega
      rw [e]
      simp only [PFnCellName.excelize_zzColumnName.l1]
      rw [if_neg (by omega), nameL_zero]
      simp
    · have hl := len_pos h
      have e : (nameL m).length + 1 + j = ((nameL ((m - 1) / 26)).length + 1 + j) + 1 := by omega
      have hb := nameL_len_le ((m - 1) / 26)
      have e0 : wrap64 ((((nameL ((m - 1) / 26)).length + 1 : Nat) : Int) - 1) = ((nameL ((m - 1) / 26)).length : Nat) := by rw [w64 (by omega) (by omega)]; omega
      rw [e, hl]
      simp only [PFnCellName.excelize_zzColumnName.l1]
      rw [if_pos (by omega), e0, if_pos (by omega), if_pos (by simp; omega), step26 (by omega) (by omega), nat26 h, mod26 (by omega) (by omega), nat26m h, Int.toNat_natCast, set_last]
      have e3 : wrap64 ((((m - 1) % 26 : Nat) : Int) + 65) % 256 = 65 + (((m - 1) % 26 : Nat) : Int) := by rw [w64 (by omega) (by omega)]; omega
      rw [e3]
      rw [ih ((m - 1) / 26) (by omega) _ (by omega), nameL_pos h]
      simp
theorem zz (n : Int) (h1 : 1 ≤ n) (h2 : n ≤ 16384) : ∃ k, PFnCellName.excelize_zzColumnName.f k n = some (strOfNums (nameL n.toNat)) := by
  obtain ⟨m, rfl⟩ : ∃ m : Nat, n = m := ⟨n.toNat, by omega⟩
  refine ⟨(nameL m).length + 1 + ((nameL m).length + 1 + 0), ?_⟩
  have hb := nameL_len_le m
  have a := zz_l0 m ((nameL m).length + 1 + 0) m 0 (by omega) (by omega)
  have b := zz_l1 0 m [] (by omega)
  rw [List.append_nil, List.append_nil] at b
  rw [Nat.zero_add] at a
  unfold PFnCellName.excelize_zzColumnName.f
  rw [Int.toNat_natCast]
  exact a.trans b

/-! ### spec.ColumnName -/
theorem str_append (L M : List Int) : strOfNums L ++ strOfNums M = strOfNums (L ++ M) := by
  unfold strOfNums
  rw [List.map_append, ← List.append_toArray]
  apply ByteArray.ext
  rw [ByteArray.data_append]
theorem spec_l0 (j : Nat) (m : Nat) : ∀ suf : List Int, m ≤ 16384 → suf.length + m ≤ 16384 →
    Spec.spec_ColumnName.l0 ((nameL m).length + 1 + j) m (strOfNums suf) = some (strOfNums (nameL m ++ suf), true) := by
  induction m using Nat.strongRecOn with
  | ind m ih =>
    intro suf hm hs
    by_cases h : m = 0
    · subst h
      have e : (nameL 0).length + 1 + j = j + 1 := by rw [nameL_zero]; simp; omega
      rw [e]
      simp only [Spec.spec_ColumnName.l0]
      rw [if_neg (by omega), nameL_zero]
      rfl
    · have hl := len_pos h
      have e : (nameL m).length + 1 + j = ((nameL ((m - 1) / 26)).length + 1 + j) + 1 := by omega
      rw [e]
      simp only [Spec.spec_ColumnName.l0, Option.bind_some]
      have e1 : wrap64 (65 + Int.tmod (wrap64 ((m : Int) - 1)) 26) % 256 = 65 + (((m - 1) % 26 : Nat) : Int) := by
        rw [mod26 (by omega) (by omega), nat26m h, w64 (by omega) (by omega)]; omega
      have e2 : wrap64 (Int.tdiv (wrap64 (wrap64 ((m : Int) - 1) - Int.tmod (wrap64 ((m : Int) - 1)) 26)) 26) = (((m - 1) / 26 : Nat) : Int) := by
        rw [mod26 (by omega) (by omega), w64 (n := (m : Int) - 1) (by omega) (by omega), w64 (n := (m : Int) - 1 - ((m : Int) - 1) % 26) (by omega) (by omega), Int.tdiv_eq_ediv_of_nonneg (by omega), w64 (by omega) (by omega)]
        omega
      rw [if_pos (by omega), e1, e2, strOfNums_size, strOfNums_size, if_pos (by simp; omega), str_append, ih ((m - 1) / 26) (by omega) _ (by omega) (by simp; omega), nameL_pos h]
      simp
theorem specName (n : Int) (h1 : 1 ≤ n) (h2 : n ≤ 16384) : ∃ k, Spec.spec_ColumnName.f k n = some (strOfNums (nameL n.toNat), true) := by
  obtain ⟨m, rfl⟩ : ∃ m : Nat, n = m := ⟨n.toNat, by omega⟩
  refine ⟨(nameL m).length + 1 + 0 + 1, ?_⟩
  have a := spec_l0 0 m [] (by omega) (by simp; omega)
  unfold Spec.spec_ColumnName.f
  rw [if_neg (by omega), decide_eq_false (by omega), Int.toNat_natCast]
  simp only [Spec.spec_ColumnName.j0]
  rw [if_neg (by decide)]
  rw [List.append_nil] at a
  exact a
theorem specName_out (n : Int) (h : n < 1 ∨ 16384 < n) : Spec.spec_ColumnName.f 1 n = some (⟨#[]⟩, false) := by
  unfold Spec.spec_ColumnName.f
  by_cases h1 : n < 1
  · rw [if_pos h1]; simp only [Spec.spec_ColumnName.j0, if_true]
  · rw [if_neg h1, decide_eq_true (by omega)]; simp only [Spec.spec_ColumnName.j0, if_true]

/-! ### lowered -/
theorem low_run (L : List Int) (hL : ∀ c ∈ L, 65 ≤ c ∧ c ≤ 90) (hn : L.length ≤ 16384) (d : Nat) : ∀ i k : Nat, i + d = L.length → d < k →
    PFnCellName.laws_lowered.l0 k (strOfNums L) ((L.take i).map (· + 32)) i = some (strOfNums (L.map (· + 32))) := by
  induction d with
  | zero =>
    intro i k hi hk
    obtain ⟨k, rfl⟩ : ∃ m, k = m + 1 := ⟨k - 1, by omega⟩
    simp only [PFnCellName.laws_lowered.l0]
    rw [if_neg (by rw [strOfNums_size]; omega), List.take_of_length_le (by omega)]
  | succ d ih =>
    intro i k hi hk
    obtain ⟨k, rfl⟩ : ∃ m, k = m + 1 := ⟨k - 1, by omega⟩
    have hlt : i < L.length := by omega
    have hc := hL L[i] (List.getElem_mem hlt)
    have hb := bt_str L (fun c hc => by have := hL c hc; omega) i hlt
    have e : PFnCellName.spec_Lower.f (bt (strOfNums L) i) = some (L[i] + 32) := by
      rw [hb]
      unfold PFnCellName.spec_Lower.f
      rw [if_pos (by omega), if_pos (by omega)]
      have : (L[i] + 32) % 256 = L[i] + 32 := by omega
      rw [this]
    simp only [PFnCellName.laws_lowered.l0]
    rw [if_pos (by rw [strOfNums_size]; omega), if_pos (by omega), e]
    simp only [Option.bind_some]
    rw [if_pos (by simp; omega), w64 (by omega) (by omega)]
    have e3 : (L.take i).map (· + 32) ++ [L[i] + 32] = (L.take (i + 1)).map (· + 32) := by
      rw [List.take_succ_eq_append_getElem hlt, List.map_append]; rfl
    have e4 : (i : Int) + 1 = ((i + 1 : Nat) : Int) := by omega
    rw [e3, e4]
    exact ih (i + 1) k (by omega) (by omega)
theorem lowered (L : List Int) (hL : ∀ c ∈ L, 65 ≤ c ∧ c ≤ 90) (hn : L.length ≤ 16384) : ∃ k, PFnCellName.laws_lowered.f k (strOfNums L) = some (strOfNums (L.map (· + 32))) :=
  ⟨L.length + 1, low_run L hL hn L.length 0 _ (by omega) (by omega)⟩

/-! ### A column's name has its number -/
theorem nm_of (L : List Int) (hb : ∀ c ∈ L, 0 ≤ c ∧ c ≤ 255) (h : ∀ c ∈ L, isL c) (h1 : 1 ≤ val 0 L) (h2 : val 0 L ≤ 16384) : NmR (strOfNums L) (val 0 L) true := by
  have := nmR_all (strOfNums L)
  have ok : okL 0 L = true := (okL_iff _ _).2 ⟨h, h2⟩
  rw [nm8_str L hb, if_pos ⟨ok, by omega⟩, ok, decide_eq_true (by omega)] at this
  exact this
theorem nm_great (n : Int) (h1 : 1 ≤ n) (h2 : n ≤ 16384) : NmR (strOfNums (nameL n.toNat)) n true := by
  have hv : val 0 (nameL n.toNat) = n := by rw [val_nameL]; omega
  have := nm_of (nameL n.toNat) (fun c hc => by have := nameL_letters _ c hc; omega) (nameL_isL _) (by omega) (by omega)
  rw [hv] at this
  exact this
theorem nm_small (n : Int) (h1 : 1 ≤ n) (h2 : n ≤ 16384) : NmR (strOfNums ((nameL n.toNat).map (· + 32))) n true := by
  have hv : val 0 ((nameL n.toNat).map (· + 32)) = n := by rw [val_low _ _ (nameL_letters _), val_nameL]; omega
  have := nm_of ((nameL n.toNat).map (· + 32)) (fun c hc => by obtain ⟨x, hx, rfl⟩ := List.mem_map.1 hc; have := nameL_letters _ x hx; omega)
    (fun c hc => by obtain ⟨x, hx, rfl⟩ := List.mem_map.1 hc; have := nameL_letters _ x hx; unfold isL; rw [up_low this]; exact this) (by omega) (by omega)
  rw [hv] at this
  exact this
theorem cn_of (n : Int) (h1 : 1 ≤ n) (h2 : n ≤ 16384) : CnR n (strOfNums (nameL n.toNat)) true := Or.inr ⟨h1, h2, rfl, zz n h1 h2⟩
theorem cn_out (n : Int) (h : n < 1 ∨ 16384 < n) : CnR n ⟨#[]⟩ false := Or.inl ⟨h, rfl, rfl⟩

/-! ### The order of two names -/
theorem val_inj (a b : Nat) (h : nameL a = nameL b) : a = b := by
  have h1 := val_nameL a
  have h2 := val_nameL b
  rw [h] at h1
  omega
theorem order_len (a b : Nat) (h : (nameL a).length ≠ (nameL b).length) : (nameL a).length < (nameL b).length ↔ a < b := by
  constructor
  · intro h1
    by_cases h2 : a < b
    · exact h2
    · have := nameL_mono a b (by omega); omega
  · intro h1
    have := nameL_mono b a (by omega)
    omega
theorem order_lex (a b : Nat) (h : (nameL a).length = (nameL b).length) : Op.bytesLess (strOfNums (nameL a)).toList (strOfNums (nameL b)).toList = decide ((a : Int) < b) := by
  rw [toList_str, toList_str, Bool.eq_iff_iff, less_iff _ _ 0 h (nameL_letters a) (nameL_letters b), val_nameL, val_nameL, decide_eq_true_iff]
theorem str_inj (L M : List Int) (h1 : ∀ c ∈ L, 0 ≤ c ∧ c ≤ 255) (h2 : ∀ c ∈ M, 0 ≤ c ∧ c ≤ 255) (h : (strOfNums L).toList = (strOfNums M).toList) : L = M := by
  have e1 := nm8_str L h1
  have e2 := nm8_str M h2
  unfold nm8 at e1 e2
  rw [ByteArray.toList_eq, ByteArray.toList_eq] at h
  rw [h] at e1
  exact e1.symm.trans e2
theorem order_eq (a b : Nat) : ((strOfNums (nameL a)).toList == (strOfNums (nameL b)).toList) = decide ((a : Int) = b) := by
  rw [Bool.eq_iff_iff, beq_iff_eq, decide_eq_true_iff]
  constructor
  · intro h
    have := val_inj a b (str_inj _ _ (fun c hc => by have := nameL_letters _ c hc; omega) (fun c hc => by have := nameL_letters _ c hc; omega) h)
    omega
  · intro h
    have : a = b := by omega
    rw [this]
end Go.Proofs.YthegckcffmlanaaDoor.Plain
