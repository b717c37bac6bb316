import Derived.Test.YthegckcffmlanaaDoorParts
namespace Go.Proofs.YthegckcffmlanaaDoor.Plain
open Go.RowKit Go.Lib Go.Proofs.YthegckcffmlanaaDoorW.PrintWords

/-! ### Digits as a number -/
def nums8 (l : List UInt8) : List Int := l.map fun b => (b.toNat : Int)
def dval : Int → List Int → Int
  | a, [] => a
  | a, c :: cs => dval (10 * a + (c - 48)) cs
def allDig (L : List Int) : Prop := ∀ c ∈ L, 48 ≤ c ∧ c ≤ 57
theorem dval_ge (L : List Int) : ∀ a : Int, 0 ≤ a → allDig L → a ≤ dval a L := by
  induction L with
  | nil => intro a _ _; exact Int.le_refl _
  | cons c cs ih =>
    intro a ha h
    have hc := h c (by simp)
    have := ih (10 * a + (c - 48)) (by omega) (fun x hx => h x (by simp [hx]))
    show a ≤ dval (10 * a + (c - 48)) cs
    omega
theorem parse_ok (l : List UInt8) : ∀ (acc u : Nat), parseUint10 acc l = .ok u → allDig (nums8 l) ∧ (u : Int) = dval acc (nums8 l) := by
  induction l with
  | nil =>
    intro acc u h
    simp only [parseUint10] at h
    injection h with h
    exact ⟨fun c hc => (by cases hc), by rw [h]; rfl⟩
  | cons b r ih =>
    intro acc u h
    simp only [parseUint10] at h
    by_cases c1 : 48 ≤ b.toNat ∧ b.toNat ≤ 57
    · rw [if_pos c1] at h
      by_cases c2 : 1844674407370955162 ≤ acc
      · rw [if_pos c2] at h; cases h
      · rw [if_neg c2] at h
        by_cases c3 : 18446744073709551616 ≤ acc * 10 + (b.toNat - 48)
        · rw [if_pos c3] at h; cases h
        · rw [if_neg c3] at h
          obtain ⟨h1, h2⟩ := ih _ _ h
          refine ⟨fun c hc => ?_, ?_⟩
          · unfold nums8 at hc
            rw [List.map_cons] at hc
            rcases List.mem_cons.1 hc with rfl | hc
            · omega
            · exact h1 c hc
          · rw [h2]
            have e : ((acc * 10 + (b.toNat - 48) : Nat) : Int) = 10 * (acc : Int) + ((b.toNat : Int) - 48) := by omega
            rw [e]; rfl
    · rw [if_neg c1] at h; cases h
theorem parse_of (l : List UInt8) : ∀ acc : Nat, allDig (nums8 l) → dval acc (nums8 l) ≤ 1048576 → parseUint10 acc l = .ok (dval acc (nums8 l)).toNat := by
  induction l with
  | nil => intro acc _ _; simp [parseUint10, nums8, dval]
  | cons b r ih =>
    intro acc h hv
    have hb := h (b.toNat : Int) (by simp [nums8])
    have hr : allDig (nums8 r) := fun c hc => h c (by unfold nums8 at *; rw [List.map_cons]; exact List.mem_cons_of_mem _ hc)
    have e : ((acc * 10 + (b.toNat - 48) : Nat) : Int) = 10 * (acc : Int) + ((b.toNat : Int) - 48) := by omega
    have e2 : dval acc (nums8 (b :: r)) = dval ((acc * 10 + (b.toNat - 48) : Nat) : Int) (nums8 r) := by rw [e]; rfl
    rw [e2] at hv
    have hg := dval_ge (nums8 r) ((acc * 10 + (b.toNat - 48) : Nat) : Int) (by omega) hr
    simp only [parseUint10]
    rw [if_pos (by omega), if_neg (by omega), if_neg (by omega), ih _ hr hv, e2]
theorem atoi_ok (l : List UInt8) (v : Int) (hv : 1 ≤ v) (h : Lib.atoiAll l = .ok v) (hp : (43 : Int) ∉ nums8 l) : l ≠ [] ∧ allDig (nums8 l) ∧ v = dval 0 (nums8 l) := by
  cases l with
  | nil => simp only [Lib.atoiAll] at h; cases h
  | cons c r =>
    have hc : ¬ c.toNat = 43 := fun e => hp (by unfold nums8; rw [List.map_cons, e]; simp)
    simp only [Lib.atoiAll] at h
    by_cases hm : c.toNat = 45
    · exfalso
      rw [if_pos (Or.inr hm)] at h
      generalize parseMag r = m at h
      cases m with
      | ok u =>
        simp only at h
        rw [if_neg (by omega)] at h
        split at h
        · cases h
        · injection h with h
          omega
      | range => cases h
      | _ => cases h
    · rw [if_neg (by omega)] at h
      cases hmm : parseMag (c :: r) with
      | ok u =>
        rw [hmm] at h
        simp only at h
        split at h
        · cases h
        · split at h
          · cases h
          · injection h with h
            unfold parseMag at hmm
            rw [if_neg (by simp)] at hmm
            obtain ⟨h1, h2⟩ := parse_ok _ _ _ hmm
            exact ⟨by simp, h1, by rw [← h]; exact h2⟩
      | range => rw [hmm] at h; cases h
      | _ => rw [hmm] at h; cases h
theorem atoi_of (l : List UInt8) (hne : l ≠ []) (h : allDig (nums8 l)) (hv : dval 0 (nums8 l) ≤ 1048576) : Lib.atoiAll l = .ok (dval 0 (nums8 l)) := by
  cases l with
  | nil => exact absurd rfl hne
  | cons c r =>
    have hc := h (c.toNat : Int) (by simp [nums8])
    have hp := parse_of (c :: r) 0 h hv
    have h0 := dval_ge _ 0 (by omega) h
    simp only [Lib.atoiAll]
    rw [if_neg (by omega)]
    unfold parseMag
    rw [if_neg (by simp)]
    have hp' : parseUint10 0 (c :: r) = .ok (dval 0 (nums8 (c :: r))).toNat := hp
    rw [hp']
    simp only
    rw [if_neg (by omega), if_neg (by omega), if_neg (by omega)]
    congr 1
    omega
/-! ### What the package reads -/
theorem rowOf_nums {s : ByteArray} {C R : List Int} (h : nm8 s = C ++ R) : nums8 (rowOf s C) = R := by
  unfold nums8 rowOf
  rw [List.map_drop]
  have : (s.data.toList.map fun b => (b.toNat : Int)) = C ++ R := h
  rw [this, List.drop_left]
/-- The text's parts, its column and its row. -/
structure Reads (s : ByteArray) (C R : List Int) (col row : Int) : Prop where
  parts : Parts s C R
  some : R ≠ []
  pos : 1 ≤ row
  low : row ≤ 1048576
  row : Lib.atoiAll (rowOf s C) = .ok row
  good : okL 0 (colOf C) = true
  any : 0 < val 0 (colOf C)
  col : col = val 0 (colOf C)
theorem colOf_len (C : List Int) : (colOf C).length ≤ C.length := List.length_filter_le _ _
theorem colOf_range {C : List Int} (h : ∀ c ∈ C, 0 ≤ c ∧ c ≤ 255) : ∀ c ∈ colOf C, 0 ≤ c ∧ c ≤ 255 := fun c hc => h c (List.mem_filter.1 hc).1
theorem cut_len {s : ByteArray} {C R : List Int} (h : nm8 s = C ++ R) : C.length ≤ s.size := by
  have := congrArg List.length h
  rw [nm8_len, List.length_append] at this
  omega
theorem cut_range {s : ByteArray} {C R : List Int} (h : nm8 s = C ++ R) : ∀ c ∈ C, 0 ≤ c ∧ c ≤ 255 := fun c hc => nm8_range s c (by rw [h]; exact List.mem_append_left _ hc)
theorem co_reads {s : ByteArray} {C R : List Int} {col row : Int} (hs : s.size ≤ 40) (h : Reads s C R col row) : CoR s col row true := by
  obtain ⟨hP, hR, h1, h2, ha, hg, hv, rfl⟩ := h
  refine Or.inr (Or.inr ⟨_, split_parts hP hs hR row h1 ha, h2, ?_, ?_⟩)
  · rw [strOfNums_size]
    have a := colOf_len C
    have b := cut_len hP.cut
    omega
  · have := nmR_all (strOfNums (colOf C))
    rw [nm8_str _ (colOf_range (cut_range hP.cut)), if_pos ⟨hg, hv⟩, hg, decide_eq_true hv] at this
    exact this
theorem co_all (s : ByteArray) (hs : s.size ≤ 40) : (∃ col row, CoR s col row false) ∨ ∃ C R col row, Reads s C R col row := by
  rcases split_all s hs with h | ⟨C, R, v, hP, hR, hv, ha⟩
  · exact Or.inl ⟨-1, -1, Or.inl ⟨_, _, h, rfl, rfl, rfl⟩⟩
  · have hS := split_parts hP hs hR v hv ha
    by_cases h2 : v ≤ 1048576
    · have hsz : (strOfNums (colOf C)).size ≤ 40 := by
        rw [strOfNums_size]
        have a := colOf_len C
        have b := cut_len hP.cut
        omega
      have hN := nmR_all (strOfNums (colOf C))
      rw [nm8_str _ (colOf_range (cut_range hP.cut))] at hN
      by_cases c : okL 0 (colOf C) = true ∧ 0 < val 0 (colOf C)
      · exact Or.inr ⟨C, R, _, v, hP, hR, hv, h2, ha, c.1, c.2, rfl⟩
      · refine Or.inl ⟨-1, v, Or.inr (Or.inr ⟨_, hS, h2, hsz, ?_⟩)⟩
        · rw [if_neg c] at hN
          have e : (okL 0 (colOf C) && decide (0 < val 0 (colOf C))) = false := by
            rw [Bool.eq_false_iff]; intro hh; rw [Bool.and_eq_true, decide_eq_true_iff] at hh; exact c hh
          rw [e] at hN
          exact hN
    · exact Or.inl ⟨-1, -1, Or.inr (Or.inl ⟨_, v, hS, by omega, rfl, rfl, rfl⟩)⟩
end Go.Proofs.YthegckcffmlanaaDoor.Plain
