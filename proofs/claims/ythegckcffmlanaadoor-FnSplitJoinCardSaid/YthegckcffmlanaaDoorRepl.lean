import Derived.Test.YthegckcffmlanaaDoorCoord
namespace Go.Proofs.YthegckcffmlanaaDoor.Plain
open Go.RowKit Go.Lib Go.Proofs.YthegckcffmlanaaDoorW.PrintWords

theorem nm8_ext (s : ByteArray) (a b : Nat) : nm8 (s.extract a b) = ((nm8 s).drop a).take (b - a) := by
  unfold nm8
  rw [extract_data, List.map_take, List.map_drop]
theorem bytesOf_nm8 (s : ByteArray) : bytesOf s = nm8 s := rfl
theorem one36 (s : ByteArray) (i : Nat) (h : i < s.size) : ((s.extract i (i + 1)).toList = (⟨#[36]⟩ : ByteArray).toList) ↔ bt s i = 36 := by
  have h1 := nm8_at s i h
  have e : nm8 (s.extract i (i + 1)) = [bt s i] := by
    have : i + 1 - i = 1 := by omega
    rw [nm8_ext, this, drop_cons s i h]
    rfl
  constructor
  · intro hh
    rw [ByteArray.toList_eq, ByteArray.toList_eq] at hh
    unfold nm8 at e
    rw [hh] at e
    have : (36 : Int) = bt s i := by
      have h2 := congrArg List.head? e
      simpa using h2
    exact this.symm
  · intro hh
    rw [ByteArray.toList_eq, ByteArray.toList_eq]
    rw [hh] at e
    unfold nm8 at e
    generalize (s.extract i (i + 1)).data.toList = l at e
    cases l with
    | nil => simp at e
    | cons b r =>
      cases r with
      | nil =>
        have h2 : (b.toNat : Int) = 36 := by simpa using e
        have h3 : b = 36 := UInt8.toNat_inj.1 (by show b.toNat = 36; omega)
        rw [h3]
      | cons _ _ => simp at e
theorem zzI_run (s : ByteArray) (hs : s.size ≤ 40) (d : Nat) : ∀ (k i : Nat), i + d = s.size → d < k →
    PFnCellText.excelize_zzIndex.l0 k s ⟨#[36]⟩ i = some (if (36 : Int) ∈ (nm8 s).drop i then ((i + ((nm8 s).drop i).idxOf 36 : Nat) : Int) else -1) := by
  have h36 : ((⟨#[36]⟩ : ByteArray).size : Int) = 1 := rfl
  induction d with
  | zero =>
    intro k i hi hk
    obtain ⟨k, rfl⟩ : ∃ m, k = m + 1 := ⟨k - 1, by omega⟩
    have e : (nm8 s).drop i = [] := List.drop_eq_nil_of_le (by rw [nm8_len]; omega)
    simp only [PFnCellText.excelize_zzIndex.l0]
    rw [h36, w64 (by omega) (by omega), if_neg (by omega), e, if_neg (by simp)]
  | succ d ih =>
    intro k i hi hk
    obtain ⟨k, rfl⟩ : ∃ m, k = m + 1 := ⟨k - 1, by omega⟩
    have hlt : i < s.size := by omega
    have e1 : wrap64 ((i : Int) + 1) = ((i + 1 : Nat) : Int) := by rw [w64 (by omega) (by omega)]; omega
    simp only [PFnCellText.excelize_zzIndex.l0]
    rw [h36, e1, if_pos (by omega), if_pos (by omega), if_pos (by omega), Int.toNat_natCast, Int.toNat_natCast, drop_cons s i hlt]
    by_cases c : bt s i = 36
    · rw [if_pos ((one36 s i hlt).2 c), c, if_pos (by simp)]
      simp
    · rw [if_neg (fun h => c ((one36 s i hlt).1 h)), ih k (i + 1) (by omega) (by omega)]
      have hne : ¬ (36 : Int) = bt s i := fun h => c h.symm
      by_cases m : (36 : Int) ∈ (nm8 s).drop (i + 1)
      · rw [if_pos m, if_pos (List.mem_cons_of_mem _ m), List.idxOf_cons, beq_eq_false_iff_ne.2 c]
        simp only [cond_false]
        congr 1
        omega
      · rw [if_neg m, if_neg (by simp only [List.mem_cons, not_or]; exact ⟨hne, m⟩)]
theorem zzI (s : ByteArray) (hs : s.size ≤ 40) (k : Nat) (hk : s.size < k) : PFnCellText.excelize_zzIndex.f k s ⟨#[36]⟩ = some (if (36 : Int) ∈ nm8 s then (((nm8 s).idxOf 36 : Nat) : Int) else -1) := by
  have := zzI_run s hs s.size k 0 (by omega) hk
  rw [List.drop_zero, Nat.zero_add] at this
  exact this
theorem filter_idx (L : List Int) (h : (36 : Int) ∈ L) : L.filter (fun c => decide (c ≠ 36)) = L.take (L.idxOf 36) ++ (L.drop (L.idxOf 36 + 1)).filter (fun c => decide (c ≠ 36)) := by
  induction L with
  | nil => simp at h
  | cons c cs ih =>
    by_cases e : c = 36
    · subst e; simp
    · rw [List.idxOf_cons, beq_eq_false_iff_ne.2 e]
      have hm : (36 : Int) ∈ cs := by
        rcases List.mem_cons.1 h with h | h
        · exact absurd h.symm e
        · exact h
      simp only [cond_false, List.take_succ_cons, List.drop_succ_cons, List.cons_append]
      rw [List.filter_cons_of_pos (by simpa using e), ih hm]
theorem filter_none (L : List Int) (h : (36 : Int) ∉ L) : L.filter (fun c => decide (c ≠ 36)) = L :=
  List.filter_eq_self.2 fun a ha => by
    have : a ≠ 36 := fun e => h (e ▸ ha)
    simpa using this
theorem zzR_run (n : Nat) : ∀ (s : ByteArray) (acc : List Int) (k : Nat), s.size = n → s.size ≤ 40 → acc.length + s.size ≤ 80 → 2 * n + 2 < k →
    PFnCellText.excelize_zzReplaceAll.l0 k s ⟨#[36]⟩ ⟨#[]⟩ acc = some (strOfNums (acc ++ (nm8 s).filter (fun c => decide (c ≠ 36)))) := by
  induction n using Nat.strongRecOn with
  | ind n ih =>
    intro s acc k hn hs hb hk
    obtain ⟨k, rfl⟩ : ∃ m, k = m + 1 := ⟨k - 1, by omega⟩
    simp only [PFnCellText.excelize_zzReplaceAll.l0]
    rw [zzI s hs k (by omega)]
    simp only [Option.bind_some]
    by_cases m : (36 : Int) ∈ nm8 s
    · rw [if_pos m]
      have hi := List.idxOf_lt_length_of_mem m
      rw [nm8_len] at hi
      have h36 : ((⟨#[36]⟩ : ByteArray).size : Int) = 1 := rfl
      have h0 : (⟨#[]⟩ : ByteArray).size = 0 := rfl
      have e1 : wrap64 ((((nm8 s).idxOf 36 : Nat) : Int) + 1) = (((nm8 s).idxOf 36 + 1 : Nat) : Int) := by rw [w64 (by omega) (by omega)]; omega
      have hb0 : bytesOf (⟨#[]⟩ : ByteArray) = [] := rfl
      have hz1 : (s.extract 0 ((nm8 s).idxOf 36)).size = (nm8 s).idxOf 36 := by rw [ByteArray.size_extract]; omega
      have hz2 : (s.extract ((nm8 s).idxOf 36 + 1) s.size).size = s.size - ((nm8 s).idxOf 36 + 1) := by rw [ByteArray.size_extract]; omega
      rw [if_neg (by omega), if_pos (by omega), if_pos (by omega), Int.toNat_natCast, if_pos (by rw [hz1]; omega), h0, hb0, h36, e1, Int.toNat_natCast, List.append_nil]
      rw [if_pos (by rw [List.length_append, bytesOf_length, hz1]; omega), if_pos (by omega), if_pos (by omega)]
      rw [ih _ (by rw [← hn]; omega) (s.extract ((nm8 s).idxOf 36 + 1) s.size) _ k hz2 (by omega) (by rw [List.length_append, bytesOf_length, hz1]; omega) (by omega)]
      rw [bytesOf_nm8, nm8_ext, nm8_ext, filter_idx _ m, List.append_assoc]
      have e2 : (nm8 s).length ≤ s.size := by rw [nm8_len]; exact Nat.le_refl _
      rw [Nat.sub_zero, List.drop_zero, List.take_of_length_le (l := (nm8 s).drop ((nm8 s).idxOf 36 + 1)) (by rw [List.length_drop]; omega)]
    · rw [if_neg m, if_pos (by omega), if_pos (by omega), bytesOf_nm8, filter_none _ m]
theorem zzR (s : ByteArray) (hs : s.size ≤ 40) : PFnCellText.excelize_zzReplaceAll.f (2 * s.size + 3) s ⟨#[36]⟩ ⟨#[]⟩ = some (strOfNums ((nm8 s).filter (fun c => decide (c ≠ 36)))) := by
  unfold PFnCellText.excelize_zzReplaceAll.f
  have := zzR_run s.size s [] (2 * s.size + 3) rfl hs (by simp; omega) (by omega)
  rw [List.nil_append] at this
  exact this
end Go.Proofs.YthegckcffmlanaaDoor.Plain
