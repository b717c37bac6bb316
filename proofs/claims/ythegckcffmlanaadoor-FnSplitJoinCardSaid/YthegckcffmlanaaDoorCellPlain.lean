import Derived.Test.YthegckcffmlanaaDoorCellWalk
namespace Go.Proofs.YthegckcffmlanaaDoor.Plain
open Go.RowKit Go.Lib Go.Proofs.YthegckcffmlanaaDoorW.PrintWords

theorem name_short (n : Nat) (h : n ≤ 16384) : (nameL n).length ≤ 3 := by
  have z : (nameL 0).length = 0 := by rw [nameL_zero]; rfl
  have s1 : ∀ m, m ≤ 26 → (nameL m).length ≤ 1 := fun m hm => by
    by_cases e : m = 0
    · rw [e, z]; omega
    · rw [len_pos e, show (m - 1) / 26 = 0 by omega, z]; omega
  have s2 : ∀ m, m ≤ 702 → (nameL m).length ≤ 2 := fun m hm => by
    by_cases e : m = 0
    · rw [e, z]; omega
    · rw [len_pos e]
      have := s1 ((m - 1) / 26) (by omega)
      omega
  by_cases e : n = 0
  · rw [e, z]; omega
  · rw [len_pos e]
    have := s2 ((n - 1) / 26) (by omega)
    omega
theorem dig_short (u : Nat) (h : u ≤ 9999999) : (Lib.decDigits u).length ≤ 7 := by
  have st : ∀ (k : Nat) (b : Nat), (∀ m, m < b → (Lib.decDigits m).length ≤ k) → ∀ m, m < 10 * b → (Lib.decDigits m).length ≤ k + 1 := by
    intro k b hb m hm
    rw [Lib.decDigits]
    by_cases h : m < 10
    · rw [dif_pos h]; simp
    · rw [dif_neg h, List.length_append, List.length_singleton]
      have := hb (m / 10) (by omega)
      omega
  have s1 : ∀ m, m < 10 → (Lib.decDigits m).length ≤ 1 := fun m hm => by rw [Lib.decDigits, dif_pos hm]; simp
  exact st 6 1000000 (st 5 100000 (st 4 10000 (st 3 1000 (st 2 100 (st 1 10 s1))))) u (by omega)
theorem nums8_append (a b : List UInt8) : nums8 (a ++ b) = nums8 a ++ nums8 b := List.map_append ..
theorem dval_snoc (a : Int) (L : List Int) (c : Int) : dval a (L ++ [c]) = 10 * dval a L + (c - 48) := by
  induction L generalizing a with
  | nil => rfl
  | cons x xs ih => exact ih _
theorem dig_one (j : Nat) (h : j < 10) : nums8 [UInt8.ofNat (48 + j)] = [48 + (j : Int)] := by
  have := UInt8.toNat_ofNat_of_lt' (n := 48 + j) (by simp [UInt8.size]; omega)
  unfold nums8
  simp only [List.map_cons, List.map_nil]
  rw [this]
  congr 1
theorem dig_nums (u : Nat) : allDig (nums8 (Lib.decDigits u)) ∧ dval 0 (nums8 (Lib.decDigits u)) = u ∧ nums8 (Lib.decDigits u) ≠ [] := by
  induction u using Nat.strongRecOn with
  | ind u ih =>
    rw [Lib.decDigits]
    by_cases h : u < 10
    · rw [dif_pos h, dig_one u h]
      refine ⟨fun c hc => ?_, ?_, by simp⟩
      · simp only [List.mem_singleton] at hc; omega
      · show (10 * 0 + (48 + (u : Int) - 48)) = u; omega
    · rw [dif_neg h, nums8_append, dig_one (u % 10) (by omega)]
      obtain ⟨h1, h2, h3⟩ := ih (u / 10) (by omega)
      refine ⟨fun c hc => ?_, ?_, by simp⟩
      · rcases List.mem_append.1 hc with hc | hc
        · exact h1 c hc
        · simp only [List.mem_singleton] at hc; omega
      · rw [dval_snoc, h2]; omega
theorem itoa_pos (row : Int) (h : 0 ≤ row) : Lib.itoa row = Lib.decDigits row.toNat := by
  unfold Lib.itoa
  rw [if_neg (by omega)]
theorem nm8_append (a b : ByteArray) : nm8 (a ++ b) = nm8 a ++ nm8 b := by
  unfold nm8
  rw [ByteArray.data_append, Array.toList_append, List.map_append]
/-- A text of letters and of a row's digits is read as that cell. -/
theorem reads_name (s : ByteArray) (C : List Int) (col row : Int) (hc : nm8 s = C ++ nums8 (Lib.itoa row)) (hL : ∀ c ∈ C, isL c) (hv : val 0 C = col) (h1 : 1 ≤ col) (h2 : col ≤ 16384) (h3 : 1 ≤ row) (h4 : row ≤ 1048576) :
    Reads s C (nums8 (Lib.itoa row)) col row := by
  rw [itoa_pos row (by omega)] at hc ⊢
  obtain ⟨d1, d2, d3⟩ := dig_nums row.toNat
  have hr := nm8_range s
  have hCne : C ≠ [] := by intro e; rw [e] at hv; have : val 0 [] = 0 := rfl; omega
  have al : ∀ c ∈ C, alphaI c = true := fun c hcc => by
    have h0 := hr c (by rw [hc]; simp [hcc])
    exact (alphaI_iff h0.1).2 (by have := (isL_iff c).1 (hL c hcc); omega)
  have hcol : colOf C = C := filter_none C (fun h => by have := (isL_iff 36).1 (hL 36 h); omega)
  have hrow := rowOf_nums hc
  refine ⟨⟨hc, ?_, ?_, ?_⟩, d3, h3, h4, ?_, ?_, ?_, ?_⟩
  · cases hCc : C with
    | nil => exact absurd hCc hCne
    | cons x xs => exact ⟨x, xs, rfl, al x (by rw [hCc]; simp)⟩
  · exact ⟨C.dropLast, C.getLast hCne, (List.dropLast_concat_getLast hCne).symm, al _ (List.getLast_mem hCne)⟩
  · intro c hcc
    have hh := d1 c hcc
    rw [Bool.eq_false_iff]
    intro ha
    have := (alphaI_iff (by omega)).1 ha
    omega
  · have := atoi_of (rowOf s C) (by intro e; rw [e] at hrow; exact d3 hrow.symm) (by rw [hrow]; exact d1) (by rw [hrow, d2]; omega)
    rw [hrow, d2] at this
    rw [this]
    congr 1
    omega
  · rw [hcol]; exact (okL_iff _ _).2 ⟨hL, by omega⟩
  · rw [hcol]; omega
  · rw [hcol]; exact hv.symm
/-! ### Small letters -/
def lowI (c : Int) : Int := if 65 ≤ c ∧ c ≤ 90 then c + 32 else c
theorem lower_f (c : Int) (h : 0 ≤ c) (h2 : c ≤ 255) : PFnCellName.spec_Lower.f c = some (lowI c) := by
  unfold PFnCellName.spec_Lower.f lowI
  by_cases c1 : 65 ≤ c ∧ c ≤ 90
  · rw [if_pos c1.1, if_pos c1.2, if_pos c1]
    congr 1
    omega
  · rw [if_neg c1]
    by_cases c2 : c ≥ 65
    · rw [if_pos c2, if_neg (by omega)]
    · rw [if_neg c2]
theorem low_all_run (s : ByteArray) (hs : s.size ≤ 40) (d : Nat) : ∀ i k : Nat, i + d = s.size → d < k →
    PFnCellName.laws_lowered.l0 k s (((nm8 s).take i).map lowI) i = some (strOfNums ((nm8 s).map lowI)) := by
  induction d with
  | zero =>
    intro i k hi hk
    obtain ⟨k, rfl⟩ : ∃ m, k = m + 1 := ⟨k - 1, by omega⟩
    simp only [PFnCellName.laws_lowered.l0]
    rw [if_neg (by omega), List.take_of_length_le (by rw [nm8_len]; omega)]
  | succ d ih =>
    intro i k hi hk
    obtain ⟨k, rfl⟩ : ∃ m, k = m + 1 := ⟨k - 1, by omega⟩
    have hb := bt_range s i
    simp only [PFnCellName.laws_lowered.l0]
    rw [if_pos (by omega), if_pos (by omega), lower_f _ hb.1 hb.2]
    simp only [Option.bind_some]
    rw [if_pos (by rw [List.length_map, List.length_take]; omega), w64 (by omega) (by omega)]
    have e3 : ((nm8 s).take i).map lowI ++ [lowI (bt s i)] = ((nm8 s).take (i + 1)).map lowI := by
      rw [take_snoc8 s i (by omega), List.map_append]; rfl
    have e4 : (i : Int) + 1 = ((i + 1 : Nat) : Int) := by omega
    rw [e3, e4]
    exact ih (i + 1) k (by omega) (by omega)
theorem low_all (s : ByteArray) (hs : s.size ≤ 40) : PFnCellName.laws_lowered.f (s.size + 1) s = some (strOfNums ((nm8 s).map lowI)) :=
  low_all_run s hs s.size 0 _ (by omega) (by omega)
theorem lowI_range {c : Int} (h : 0 ≤ c ∧ c ≤ 255) : 0 ≤ lowI c ∧ lowI c ≤ 255 := by unfold lowI; split <;> omega
theorem nm8_low (s : ByteArray) : nm8 (strOfNums ((nm8 s).map lowI)) = (nm8 s).map lowI :=
  nm8_str _ (fun c hc => by obtain ⟨x, hx, rfl⟩ := List.mem_map.1 hc; exact lowI_range (nm8_range s x hx))
/-! ### A cell's name, in great and in small letters -/
theorem name_reads (col row : Int) (h1 : 1 ≤ col) (h2 : col ≤ 16384) (h3 : 1 ≤ row) (h4 : row ≤ 1048576) (P : ByteArray) (hP : P = strOfNums (nameL col.toNat) ++ ⟨(Lib.itoa row).toArray⟩) :
    P.size ≤ 40 ∧ CoR P col row true ∧ (strOfNums ((nm8 P).map lowI)).size ≤ 40 ∧ CoR (strOfNums ((nm8 P).map lowI)) col row true := by
  have hl := nameL_letters col.toNat
  have e1 : nm8 P = nameL col.toNat ++ nums8 (Lib.itoa row) := by
    rw [hP, nm8_append, nm8_str _ (fun c hc => by have := hl c hc; omega)]
    rfl
  have hsz : P.size ≤ 40 := by
    have a := name_short col.toNat (by omega)
    have b := dig_short row.toNat (by omega)
    rw [← nm8_len, e1, List.length_append, itoa_pos row (by omega)]
    unfold nums8
    rw [List.length_map]
    omega
  have hv : val 0 (nameL col.toNat) = col := by rw [val_nameL]; omega
  have r1 := reads_name P (nameL col.toNat) col row e1 (nameL_isL _) hv h1 h2 h3 h4
  have d1 := (dig_nums row.toNat).1
  have e2 : nm8 (strOfNums ((nm8 P).map lowI)) = (nameL col.toNat).map (· + 32) ++ nums8 (Lib.itoa row) := by
    rw [nm8_low, e1, List.map_append]
    congr 1
    · exact List.map_congr_left (fun c hc => by unfold lowI; rw [if_pos (hl c hc)])
    · rw [itoa_pos row (by omega)]
      conv => rhs; rw [← List.map_id (nums8 (Lib.decDigits row.toNat))]
      exact List.map_congr_left (fun c hc => by have := d1 c hc; unfold lowI; rw [if_neg (by omega)]; rfl)
  have hz2 : (strOfNums ((nm8 P).map lowI)).size ≤ 40 := by rw [strOfNums_size, List.length_map, nm8_len]; exact hsz
  have hv2 : val 0 ((nameL col.toNat).map (· + 32)) = col := by rw [val_low _ _ hl]; exact hv
  have r2 := reads_name (strOfNums ((nm8 P).map lowI)) ((nameL col.toNat).map (· + 32)) col row e2
    (fun c hc => by obtain ⟨x, hx, rfl⟩ := List.mem_map.1 hc; have := hl x hx; unfold isL; rw [up_low this]; exact this) hv2 h1 h2 h3 h4
  exact ⟨hsz, co_reads hsz r1, hz2, co_reads hz2 r2⟩
end Go.Proofs.YthegckcffmlanaaDoor.Plain
