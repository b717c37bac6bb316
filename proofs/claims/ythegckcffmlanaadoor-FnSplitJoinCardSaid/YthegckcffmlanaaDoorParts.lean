import Derived.Test.YthegckcffmlanaaDoorRepl
namespace Go.Proofs.YthegckcffmlanaaDoor.Plain
open Go.RowKit Go.Lib Go.Proofs.YthegckcffmlanaaDoorW.PrintWords

def alphaI (c : Int) : Bool := alphaN c.toNat
theorem alphaI_iff {c : Int} (h0 : 0 ≤ c) : alphaI c = true ↔ (65 ≤ c ∧ c ≤ 90) ∨ (97 ≤ c ∧ c ≤ 122) ∨ c = 36 := by
  unfold alphaI alphaN
  simp only [Bool.or_eq_true, Bool.and_eq_true, decide_eq_true_iff]
  omega
theorem isL_iff (c : Int) : isL c ↔ (65 ≤ c ∧ c ≤ 90) ∨ (97 ≤ c ∧ c ≤ 122) := by
  unfold isL up
  split <;> omega
/-! ### The parts of a text: up to the last letter or dollar, and behind it -/
theorem split_exists (L : List Int) : ∃ C R, L = C ++ R ∧ (C = [] ∨ ∃ cs c, C = cs ++ [c] ∧ alphaI c = true) ∧ ∀ c ∈ R, alphaI c = false := by
  induction L with
  | nil => exact ⟨[], [], rfl, Or.inl rfl, fun _ h => by cases h⟩
  | cons c cs ih =>
    obtain ⟨C, R, rfl, hC, hR⟩ := ih
    rcases hC with rfl | ⟨ds, d, rfl, hd⟩
    · cases h : alphaI c with
      | true => exact ⟨[c], R, rfl, Or.inr ⟨[], c, rfl, h⟩, hR⟩
      | false => exact ⟨[], c :: R, rfl, Or.inl rfl, fun x hx => by
          rcases List.mem_cons.1 hx with rfl | hx
          · exact h
          · exact hR x hx⟩
    · exact ⟨c :: (ds ++ [d]), R, rfl, Or.inr ⟨c :: ds, d, rfl, hd⟩, hR⟩
theorem data_at (s : ByteArray) (j : Nat) : ((nm8 s).getD j 0).toNat = (s.data.toList.getD j 0).toNat := by
  unfold nm8
  simp only [List.getD, List.getElem?_map]
  cases s.data.toList[j]? with
  | none => rfl
  | some b => simp
theorem idx_of (s : ByteArray) (c : Int) (cs : List Int) (h : nm8 s = c :: cs) (hc : alphaI c = true) : idxFunc alphaN true s = 0 := by
  unfold nm8 at h
  cases hl : s.data.toList with
  | nil => rw [hl] at h; simp at h
  | cons b t =>
    rw [hl] at h
    simp only [List.map_cons, List.cons.injEq] at h
    refine idx_yes s b t hl ?_
    have := hc
    unfold alphaI at this
    rw [← h.1, Int.toNat_natCast] at this
    exact this
theorem idx_off (s : ByteArray) (h : ∀ c cs, nm8 s = c :: cs → alphaI c = false) : idxFunc alphaN true s ≠ 0 := by
  refine idx_no s fun b t hl => ?_
  have := h (b.toNat : Int) (t.map fun b => (b.toNat : Int)) (by unfold nm8; rw [hl]; rfl)
  unfold alphaI at this
  rwa [Int.toNat_natCast] at this
theorem last_of (s : ByteArray) (C R : List Int) (h : nm8 s = C ++ R) (hC : C = [] ∨ ∃ cs c, C = cs ++ [c] ∧ alphaI c = true) (hR : ∀ c ∈ R, alphaI c = false) : lastIdxFunc alphaN true s = (C.length : Int) - 1 := by
  have hlen : s.data.toList.length = C.length + R.length := by
    have := congrArg List.length h
    rw [nm8_len, List.length_append] at this
    rw [← sz_list]; exact this
  have hat : ∀ j, alphaN (s.data.toList.getD j 0).toNat = alphaI ((nm8 s).getD j 0) := fun j => by
    unfold alphaI
    rw [data_at]
  refine last_eq s C.length (by omega) (fun j hj1 hj2 => ?_) ?_
  · rw [hat, h]
    have e : (C ++ R).getD j 0 = R.getD (j - C.length) 0 := by
      simp only [List.getD]
      rw [List.getElem?_append_right hj1]
    rw [e]
    have hlt : j - C.length < R.length := by omega
    have e2 : R.getD (j - C.length) 0 = R[j - C.length] := by simp [List.getD, hlt]
    rw [e2]
    exact hR _ (List.getElem_mem hlt)
  · rcases hC with rfl | ⟨cs, c, rfl, hc⟩
    · exact Or.inl rfl
    · refine Or.inr ?_
      rw [hat, h]
      have e : ((cs ++ [c]) ++ R).getD ((cs ++ [c]).length - 1) 0 = c := by simp [List.getD]
      rw [e]
      exact hc
/-- The parts, the row and the column of a text that the package reads as a cell. -/
structure Parts (s : ByteArray) (C R : List Int) : Prop where
  cut : nm8 s = C ++ R
  head : ∃ c cs, C = c :: cs ∧ alphaI c = true
  last : ∃ cs c, C = cs ++ [c] ∧ alphaI c = true
  rest : ∀ c ∈ R, alphaI c = false
/-- The column's text: without dollars. -/
def colOf (C : List Int) : List Int := C.filter (fun c => decide (c ≠ 36))
/-- The row's text. -/
def rowOf (s : ByteArray) (C : List Int) : List UInt8 := s.data.toList.drop C.length
theorem parts_cut {s : ByteArray} {C R : List Int} (h : Parts s C R) (hs : s.size ≤ 40) (hR : R ≠ []) :
    ∃ (D k : Nat), D + 1 < s.size ∧ idxFunc alphaN true s = 0 ∧ lastIdxFunc alphaN true s = D ∧ PFnCellText.excelize_zzReplaceAll.f k (s.extract 0 (D + 1)) ⟨#[36]⟩ ⟨#[]⟩ = some (strOfNums (colOf C)) ∧ (s.extract (D + 1) s.size).data.toList = rowOf s C := by
  obtain ⟨hcut, ⟨c, cs, hh, hc⟩, hlast, hrest⟩ := h
  have hlen : C.length + R.length = s.size := by
    have := congrArg List.length hcut
    rw [nm8_len, List.length_append] at this
    exact this.symm
  have hCl : 1 ≤ C.length := by rw [hh]; simp
  have hRl : 1 ≤ R.length := List.length_pos_iff.2 hR
  have hl := last_of s C R hcut (Or.inr hlast) hrest
  have hsz : (s.extract 0 (C.length - 1 + 1)).size = C.length := by rw [ByteArray.size_extract]; omega
  have hz := zzR (s.extract 0 (C.length - 1 + 1)) (by omega)
  have e1 : nm8 (s.extract 0 (C.length - 1 + 1)) = C := by
    rw [nm8_ext, hcut, List.drop_zero, show C.length - 1 + 1 - 0 = C.length by omega, List.take_left]
  rw [e1] at hz
  refine ⟨C.length - 1, _, by omega, idx_of s c (cs ++ R) (by rw [hcut, hh]; rfl) hc, by rw [hl]; omega, hz, ?_⟩
  unfold rowOf
  rw [extract_data, show C.length - 1 + 1 = C.length by omega]
  exact List.take_of_length_le (by rw [List.length_drop, ← sz_list]; exact Nat.le_refl _)
theorem split_parts {s : ByteArray} {C R : List Int} (h : Parts s C R) (hs : s.size ≤ 40) (hR : R ≠ []) (v : Int) (hv : 1 ≤ v) (ha : Lib.atoiAll (rowOf s C) = .ok v) : SplitR s (strOfNums (colOf C)) v true := by
  obtain ⟨D, k, hD, h1, h2, h3, h4⟩ := parts_cut h hs hR
  exact Or.inr (Or.inr (Or.inr ⟨D, k, hD, h1, h2, h3, hv, by rw [h4]; exact ha, rfl⟩))
/-- Every text is read, or refused. -/
theorem split_all (s : ByteArray) (hs : s.size ≤ 40) : SplitR s ⟨#[]⟩ (-1) false ∨ ∃ C R v, Parts s C R ∧ R ≠ [] ∧ 1 ≤ v ∧ Lib.atoiAll (rowOf s C) = .ok v := by
  obtain ⟨C, R, hcut, hC, hR⟩ := split_exists (nm8 s)
  by_cases hh : ∃ c cs, C = c :: cs ∧ alphaI c = true
  · have hlast : ∃ cs c, C = cs ++ [c] ∧ alphaI c = true := by
      rcases hC with h | h
      · obtain ⟨c, cs, h2, _⟩ := hh; rw [h] at h2; cases h2
      · exact h
    have hP : Parts s C R := ⟨hcut, hh, hlast, hR⟩
    by_cases hRe : R = []
    · refine Or.inl (Or.inr (Or.inl ⟨?_, ?_, rfl, rfl, rfl⟩))
      · obtain ⟨c, cs, h2, h3⟩ := hh
        exact idx_of s c (cs ++ R) (by rw [hcut, h2]; rfl) h3
      · have := last_of s C R hcut hC hR
        rw [this]
        have hlen := congrArg List.length hcut
        rw [nm8_len, hRe, List.append_nil] at hlen
        omega
    · by_cases ha : ∃ v, 1 ≤ v ∧ Lib.atoiAll (rowOf s C) = .ok v
      · obtain ⟨v, hv, ha⟩ := ha
        exact Or.inr ⟨C, R, v, hP, hRe, hv, ha⟩
      · obtain ⟨D, k, hD, h1, h2, h3, h4⟩ := parts_cut hP hs hRe
        exact Or.inl (Or.inr (Or.inr (Or.inl ⟨D, k, _, hD, h1, h2, h3, fun v hv hx => ha ⟨v, hv, by rw [← h4]; exact hx⟩, rfl, rfl, rfl⟩)))
  · refine Or.inl (Or.inl ⟨idx_off s fun c cs hcs => ?_, rfl, rfl, rfl⟩)
    rw [Bool.eq_false_iff]
    intro hc
    refine hh ?_
    rw [hcut] at hcs
    rcases hC with h | ⟨ds, d, h, hd⟩
    · rw [h, List.nil_append] at hcs
      have := hR c (by rw [hcs]; simp)
      rw [this] at hc; cases hc
    · cases hCc : C with
      | nil => rw [h] at hCc; simp at hCc
      | cons x xs =>
        rw [hCc] at hcs
        simp only [List.cons_append, List.cons.injEq] at hcs
        exact ⟨x, xs, rfl, by rw [hcs.1]; exact hc⟩
end Go.Proofs.YthegckcffmlanaaDoor.Plain
