import Derived.Test.YthegckcffmlanaaDoorCellE
namespace Go.Proofs.YthegckcffmlanaaDoor.Plain
open Go.RowKit Go.Lib Go.Proofs.YthegckcffmlanaaDoorW.PrintWords

theorem rowL_said (v : Int) (ok : Bool) (D : List Int) : ∀ row : Int, (rowL v ok row D).2.2.2 = true := by
  induction D with
  | nil =>
    intro row
    unfold rowL
    split
    · split
      · rfl
      · split <;> rfl
    · rfl
  | cons c cs ih =>
    intro row
    unfold rowL
    split
    · rfl
    · exact ih _
theorem rowL_true (v : Int) (ok : Bool) (D : List Int) : ∀ (row c r : Int), 0 ≤ row → rowL v ok row D = (c, r, true, true) → ok = true ∧ allDig D ∧ c = v ∧ r = dval row D ∧ 1 ≤ r ∧ r ≤ 1048576 := by
  induction D with
  | nil =>
    intro row c r h0 h
    unfold rowL at h
    by_cases c0 : ok = true
    · rw [if_pos c0] at h
      by_cases c1 : row < 1
      · rw [if_pos c1] at h; simp at h
      · rw [if_neg c1] at h
        by_cases c2 : 1048576 < row
        · rw [if_pos c2] at h; simp at h
        · rw [if_neg c2] at h
          simp only [Prod.mk.injEq, and_true] at h
          refine ⟨c0, (fun c hc => by cases hc), h.1.symm, h.2.symm, by omega, by omega⟩
    · rw [if_neg c0] at h; simp at h
  | cons x xs ih =>
    intro row c r h0 h
    unfold rowL at h
    by_cases c0 : x < 48 ∨ 57 < x
    · rw [if_pos c0] at h; simp at h
    · rw [if_neg c0] at h
      by_cases c1 : row ≤ 1048576
      · rw [if_pos c1] at h
        obtain ⟨h1, h2, h3, h4, h5, h6⟩ := ih _ c r (by omega) h
        refine ⟨h1, (fun y hy => ?_), h3, h4, h5, h6⟩
        rcases List.mem_cons.1 hy with rfl | hy
        · omega
        · exact h2 y hy
      · rw [if_neg c1] at h
        obtain ⟨h1, h2, h3, h4, h5, h6⟩ := ih _ c r h0 h
        have := dval_ge xs row h0 h2
        omega
theorem rowL_of (v : Int) (D : List Int) : ∀ row : Int, 0 ≤ row → allDig D → 1 ≤ dval row D → dval row D ≤ 1048576 → rowL v true row D = (v, dval row D, true, true) := by
  induction D with
  | nil =>
    intro row h0 _ h1 h2
    have h1' : 1 ≤ row := h1
    have h2' : row ≤ 1048576 := h2
    unfold rowL
    rw [if_pos rfl, if_neg (by omega), if_neg (by omega)]
    rfl
  | cons x xs ih =>
    intro row h0 hd h1 h2
    have hx := hd x (by simp)
    have hxs : allDig xs := fun y hy => hd y (by simp [hy])
    have h2' : dval (10 * row + (x - 48)) xs ≤ 1048576 := h2
    have hg := dval_ge xs (10 * row + (x - 48)) (by omega) hxs
    unfold rowL
    rw [if_neg (by omega), if_pos (by omega)]
    exact ih _ (by omega) hxs h1 h2
theorem tw {p : Int → Bool} (X Y : List Int) (hX : ∀ x ∈ X, p x = true) (hY : ∃ y ys, Y = y :: ys ∧ p y = false) : (X ++ Y).takeWhile p = X := by
  obtain ⟨y, ys, rfl, hy⟩ := hY
  induction X with
  | nil => rw [List.nil_append, List.takeWhile_cons_of_neg (by rw [hy]; decide)]
  | cons x xs ih =>
    rw [List.cons_append, List.takeWhile_cons_of_pos (hX x (by simp)), ih (fun z hz => hX z (by simp [hz]))]
/-- Is it no digit? -/
def noDig (c : Int) : Bool := !decide (48 ≤ c ∧ c ≤ 57)
theorem noDig_of {c : Int} (h : ¬ (48 ≤ c ∧ c ≤ 57)) : noDig c = true := by unfold noDig; rw [decide_eq_false h]; rfl
theorem noDig_not {c : Int} (h : 48 ≤ c ∧ c ≤ 57) : noDig c = false := by unfold noDig; rw [decide_eq_true h]; rfl
/-- So many dollars (none or one). -/
def dol (b : Bool) : List Int := if b then [36] else []
theorem dol_mem {b : Bool} : ∀ c ∈ dol b, c = 36 := by
  intro c hc
  unfold dol at hc
  split at hc
  · simpa using hc
  · cases hc
/-- What the reference sees of a text of which it says something. -/
structure Seen (L : List Int) (A B : Bool) (T D : List Int) : Prop where
  cut : L = dol A ++ T ++ dol B ++ D
  letters : ∀ c ∈ T, nd c = true
  plain : (36 : Int) ∉ D
  start : D = [] ∨ ∃ c cs, D = c :: cs ∧ 48 ≤ c ∧ c ≤ 57
  plus : (43 : Int) ∉ L
theorem drop_flag (L : List Int) (b : Bool) (h : b = true → L.head? = some 36) : L = dol b ++ L.drop b.toNat := by
  cases b with
  | false => rfl
  | true =>
    cases L with
    | nil => have := h rfl; cases this
    | cons x xs =>
      have := h rfl
      simp only [List.head?_cons, Option.some.injEq] at this
      rw [this]; rfl
theorem seen_of (L : List Int) (c r : Int) (is : Bool) (h : cellV L = (c, r, is, true)) :
    ∃ A B T D, Seen L A B T D ∧ rowL (if okL 0 T then val 0 T else 0) (okL 0 T && decide (0 < val 0 T)) 0 D = (c, r, is, true) := by
  unfold cellV at h
  by_cases c1 : (43 : Int) ∈ L
  · rw [if_pos c1] at h; simp at h
  · rw [if_neg c1] at h
    unfold cellMid cellEnd at h
    have e1 : L = dol (flagA L) ++ L.drop (flagA L).toNat := drop_flag L _ (fun hh => by unfold flagA at hh; simpa using hh)
    generalize hA : flagA L = A at *
    generalize hL1 : L.drop A.toNat = L1 at *
    have e2 := (List.takeWhile_append_dropWhile (p := nd) (l := L1)).symm
    have hT : ∀ x ∈ L1.takeWhile nd, nd x = true := fun x hx => by
      have := List.all_takeWhile (p := nd) (l := L1)
      exact List.all_eq_true.1 this x hx
    have hD0 : L1.dropWhile nd = [] ∨ ∃ x xs, L1.dropWhile nd = x :: xs ∧ nd x = false := by
      cases hd : L1.dropWhile nd with
      | nil => exact Or.inl rfl
      | cons x xs =>
        refine Or.inr ⟨x, xs, rfl, ?_⟩
        have := List.head_dropWhile_not nd (l := L1) (by rw [hd]; simp)
        simpa [hd] using this
    generalize hT' : L1.takeWhile nd = T at *
    generalize hD' : L1.dropWhile nd = D0 at *
    have e3 : D0 = dol (flagB T D0) ++ D0.drop (flagB T D0).toNat := drop_flag D0 _ (fun hh => ((flagB_of _ _).1 hh).2.1)
    have hBs : flagB T D0 = true → ∃ x xs, D0.drop 1 = x :: xs ∧ 48 ≤ x ∧ x ≤ 57 := fun hh => by
      obtain ⟨_, _, x, hx, hx2⟩ := (flagB_of _ _).1 hh
      rw [← List.drop_one] at hx
      cases hd : D0.drop 1 with
      | nil => rw [hd] at hx; cases hx
      | cons y ys =>
        rw [hd] at hx
        have := Option.some.inj hx
        exact ⟨y, ys, rfl, by rw [this]; exact hx2⟩
    generalize hB : flagB T D0 = B at *
    generalize hD : D0.drop B.toNat = D at *
    by_cases c2 : 0 < ((L.count 36 : Nat) : Int) - ((A.toNat : Nat) : Int) - ((B.toNat : Nat) : Int) ∨ D.head? = some 48
    · rw [if_pos c2] at h; simp at h
    · rw [if_neg c2] at h
      have cutL : L = dol A ++ T ++ dol B ++ D := by
        rw [e1, e2, e3]; simp [List.append_assoc]
      have hcD : D.count 36 = 0 := by
        have hc := congrArg (List.count 36) cutL
        rw [List.count_append, List.count_append, List.count_append] at hc
        have cA : ∀ b : Bool, (dol b).count 36 = b.toNat := fun b => by cases b <;> rfl
        rw [cA, cA] at hc
        omega
      have hp : (36 : Int) ∉ D := List.count_eq_zero.1 hcD
      refine ⟨A, B, T, D, ⟨cutL, hT, hp, ?_, c1⟩, h⟩
      cases hBb : B with
      | true =>
        rw [hBb] at hD
        obtain ⟨x, xs, hx, h1, h2⟩ := hBs hBb
        exact Or.inr ⟨x, xs, by rw [← hD]; exact hx, h1, h2⟩
      | false =>
        rw [hBb] at hD
        have hD2 : D0 = D := hD
        rcases hD0 with h0 | ⟨x, xs, h0, hx⟩
        · exact Or.inl (by rw [← hD2]; exact h0)
        · refine Or.inr ⟨x, xs, by rw [← hD2]; exact h0, ?_⟩
          have h36 : x ≠ 36 := fun e => hp (by rw [← hD2, h0, e]; simp)
          by_cases hh : 48 ≤ x ∧ x ≤ 57
          · exact hh
          · have := (nd_iff x).2 ⟨hh, h36⟩
            rw [this] at hx; cases hx
theorem isL_nd {c : Int} (h : isL c) : nd c = true := by
  rw [nd_iff]
  have := (isL_iff c).1 h
  omega
theorem col_of {A B : Bool} {T : List Int} (hT : ∀ c ∈ T, nd c = true) : colOf (dol A ++ T ++ dol B) = T := by
  have hd : ∀ b : Bool, (dol b).filter (fun c => decide (c ≠ 36)) = [] := fun b => by cases b <;> rfl
  unfold colOf
  rw [List.filter_append, List.filter_append, hd, hd, List.nil_append, List.append_nil]
  exact filter_none T (fun h => ((nd_iff 36).1 (hT 36 h)).2 rfl)
/-- What the reference calls a cell, the package reads so. -/
theorem reads_of_seen {s : ByteArray} {A B : Bool} {T D : List Int} (hS : Seen (nm8 s) A B T D) (hok : okL 0 T = true) (hv : 0 < val 0 T) (hD : allDig D) (h1 : 1 ≤ dval 0 D) (h2 : dval 0 D ≤ 1048576) :
    Reads s (dol A ++ T ++ dol B) D (val 0 T) (dval 0 D) := by
  obtain ⟨cut, letters, plain, start, plus⟩ := hS
  obtain ⟨hL, hV⟩ := (okL_iff _ _).1 hok
  have hTne : T ≠ [] := by
    intro e
    have e0 : val 0 T = 0 := by rw [e]; rfl
    omega
  have hDne : D ≠ [] := by
    intro e
    have e0 : dval 0 D = 0 := by rw [e]; rfl
    omega
  have hr := nm8_range s
  have al : ∀ c ∈ T, alphaI c = true := fun c hc => by
    have h0 := hr c (by rw [cut]; simp [hc])
    exact (alphaI_iff h0.1).2 (by have := (isL_iff c).1 (hL c hc); omega)
  have a36 : alphaI 36 = true := by decide
  have hrow := rowOf_nums cut
  refine ⟨⟨cut, ?_, ?_, ?_⟩, hDne, h1, h2, ?_, ?_, ?_, ?_⟩
  · cases A with
    | true => exact ⟨36, T ++ dol B, rfl, a36⟩
    | false =>
      cases hTc : T with
      | nil => exact absurd hTc hTne
      | cons x xs => exact ⟨x, xs ++ dol B, rfl, al x (by rw [hTc]; simp)⟩
  · cases B with
    | true => exact ⟨dol A ++ T, 36, rfl, a36⟩
    | false =>
      refine ⟨dol A ++ T.dropLast, T.getLast hTne, ?_, al _ (List.getLast_mem hTne)⟩
      have := List.dropLast_concat_getLast hTne
      show dol A ++ T ++ [] = _
      rw [List.append_nil, List.append_assoc, this]
  · intro c hc
    have hh := hD c hc
    rw [Bool.eq_false_iff]
    intro ha
    have := (alphaI_iff (by omega)).1 ha
    omega
  · have := atoi_of (rowOf s (dol A ++ T ++ dol B)) (by intro e; rw [e] at hrow; exact hDne hrow.symm) (by rw [hrow]; exact hD) (by rw [hrow]; exact h2)
    rw [hrow] at this
    exact this
  · rw [col_of letters]; exact hok
  · rw [col_of letters]; exact hv
  · rw [col_of letters]
/-- What the package reads, the reference calls a cell. -/
theorem seen_of_reads {s : ByteArray} {A B : Bool} {T D C R : List Int} {col row : Int} (hS : Seen (nm8 s) A B T D) (hR : Reads s C R col row) :
    okL 0 T = true ∧ 0 < val 0 T ∧ col = val 0 T ∧ allDig D ∧ row = dval 0 D := by
  obtain ⟨cut, letters, plain, start, plus⟩ := hS
  obtain ⟨hP, hRne, h1, h2, ha, hg, hv, hcol⟩ := hR
  have hrow := rowOf_nums hP.cut
  have h43 : (43 : Int) ∉ nums8 (rowOf s C) := by
    rw [hrow]; intro h; exact plus (by rw [hP.cut]; exact List.mem_append_right _ h)
  obtain ⟨_, hdig, hval⟩ := atoi_ok _ _ h1 ha h43
  rw [hrow] at hdig hval
  obtain ⟨hL, _⟩ := (okL_iff _ _).1 hg
  have hC : ∀ c ∈ C, noDig c = true := fun c hc => by
    by_cases e : c = 36
    · rw [e]; rfl
    · have := hL c (List.mem_filter.2 ⟨hc, by simpa using e⟩)
      exact noDig_of (by have := (isL_iff c).1 this; omega)
  have hRs : ∃ y ys, R = y :: ys ∧ noDig y = false := by
    cases hRc : R with
    | nil => exact absurd hRc hRne
    | cons y ys => exact ⟨y, ys, rfl, noDig_not (hdig y (by rw [hRc]; simp))⟩
  have hX : ∀ c ∈ dol A ++ T ++ dol B, noDig c = true := fun c hc => by
    rcases List.mem_append.1 hc with hc | hc
    · rcases List.mem_append.1 hc with hc | hc
      · rw [dol_mem c hc]; rfl
      · exact noDig_of ((nd_iff c).1 (letters c hc)).1
    · rw [dol_mem c hc]; rfl
  have hDs : ∃ y ys, D = y :: ys ∧ noDig y = false := by
    rcases start with h | ⟨y, ys, h, hy⟩
    · exfalso
      obtain ⟨y, ys, hy1, hy2⟩ := hRs
      have hm : y ∈ dol A ++ T ++ dol B := by
        have : y ∈ nm8 s := by rw [hP.cut, hy1]; simp
        rw [cut, h, List.append_nil] at this
        exact this
      rw [hX y hm] at hy2; cases hy2
    · exact ⟨y, ys, h, noDig_not hy⟩
  have t1 := tw C R hC hRs
  have t2 := tw (dol A ++ T ++ dol B) D hX hDs
  rw [← hP.cut] at t1
  rw [← cut] at t2
  have hCX : C = dol A ++ T ++ dol B := t1.symm.trans t2
  have hRD : R = D := by
    have := hP.cut.symm.trans cut
    rw [hCX] at this
    exact List.append_cancel_left this
  have hcT : colOf C = T := by rw [hCX]; exact col_of letters
  rw [hcT] at hg hv hcol
  rw [hRD] at hdig hval
  exact ⟨hg, hv, hcol, hdig, hval⟩
/-- The law: where the reference speaks, the package says the same. -/
theorem cell_agrees (s : ByteArray) (hs : s.size ≤ 40) (c r : Int) (is : Bool) (h : cellV (nm8 s) = (c, r, is, true)) :
    ∃ col row, CoR s col row is ∧ (is = true → col = c ∧ row = r) := by
  obtain ⟨A, B, T, D, hS, hrow⟩ := seen_of (nm8 s) c r is h
  cases is with
  | true =>
    obtain ⟨h1, h2, h3, h4, h5, h6⟩ := rowL_true _ _ D 0 c r (by omega) hrow
    rw [Bool.and_eq_true, decide_eq_true_iff] at h1
    rw [if_pos h1.1] at h3
    exact ⟨c, r, by rw [h3, h4]; exact co_reads hs (reads_of_seen hS h1.1 h1.2 h2 (by omega) (by omega)), fun _ => ⟨rfl, rfl⟩⟩
  | false =>
    rcases co_all s hs with ⟨col, row, hC⟩ | ⟨C, R, col, row, hR⟩
    · exact ⟨col, row, hC, (fun hh => by cases hh)⟩
    · exfalso
      obtain ⟨g1, g2, g3, g4, g5⟩ := seen_of_reads hS hR
      have := rowL_of (if okL 0 T = true then val 0 T else 0) D 0 (by omega) g4 (by rw [← g5]; exact hR.pos) (by rw [← g5]; exact hR.low)
      rw [g1, decide_eq_true g2] at hrow
      rw [g1] at this
      have e := hrow.symm.trans this
      simp at e
end Go.Proofs.YthegckcffmlanaaDoor.Plain
