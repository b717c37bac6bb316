import Derived.Test.YthegckcffmlanaaDoorCellV
namespace Go.Proofs.YthegckcffmlanaaDoor.Plain
open Go.RowKit Go.Lib Go.Proofs.YthegckcffmlanaaDoorW.PrintWords

theorem cell_l0 (s : ByteArray) (hs : s.size ≤ 40) (d : Nat) : ∀ (k i : Nat) (dol : Int), i + d = s.size → d < k → 0 ≤ dol → dol ≤ i →
    ((43 : Int) ∈ (nm8 s).drop i → Spec.spec_Cell.l0 k s 0 dol i = some (0, 0, false, false)) ∧
    ((43 : Int) ∉ (nm8 s).drop i → ∃ k', k - d - 1 ≤ k' ∧ Spec.spec_Cell.l0 k s 0 dol i = Spec.spec_Cell.j1 k' s 0 (dol + (((nm8 s).drop i).count 36 : Nat)) 0 (flagA (nm8 s))) := by
  induction d with
  | zero =>
    intro k i dol hi hk h0 h1
    obtain ⟨k, rfl⟩ : ∃ m, k = m + 1 := ⟨k - 1, by omega⟩
    have e : (nm8 s).drop i = [] := List.drop_eq_nil_of_le (by rw [nm8_len]; omega)
    rw [e]
    refine ⟨(fun h => by cases h), fun _ => ⟨k, by omega, ?_⟩⟩
    simp only [Spec.spec_Cell.l0]
    rw [if_neg (by omega)]
    have ed : dol + (([] : List Int).count 36 : Nat) = dol := by simp
    rw [ed]
    by_cases c : 0 < s.size
    · rw [if_pos (by omega)]
      have : (bt s 0 == 36) = flagA (nm8 s) := by
        unfold flagA
        have := head_at s 0 c
        rw [List.drop_zero] at this
        rw [this, Bool.eq_iff_iff, beq_iff_eq, decide_eq_true_iff]
        constructor
        · intro h; rw [show ((0 : Nat) : Int) = 0 from rfl, h]
        · intro h; exact Option.some.inj h
      rw [this]
    · rw [if_neg (by omega)]
      have : flagA (nm8 s) = false := by
        unfold flagA
        have := head_end s 0 (by omega)
        rw [List.drop_zero] at this
        rw [this]; rfl
      rw [this]
  | succ d ih =>
    intro k i dol hi hk h0 h1
    obtain ⟨k, rfl⟩ : ∃ m, k = m + 1 := ⟨k - 1, by omega⟩
    have e1 : wrap64 ((i : Int) + 1) = ((i + 1 : Nat) : Int) := by rw [w64 (by omega) (by omega)]; omega
    have e2 : wrap64 (dol + 1) = dol + 1 := w64 (by omega) (by omega)
    simp only [Spec.spec_Cell.l0]
    rw [if_pos (by omega), if_pos (by omega), drop_cons s i (by omega), e1, e2]
    by_cases c1 : bt s i = 36
    · rw [if_pos c1, if_neg (by omega), c1]
      obtain ⟨a, b⟩ := ih k (i + 1) (dol + 1) (by omega) (by omega) (by omega) (by omega)
      refine ⟨fun h => a (by simpa using h), fun h => ?_⟩
      obtain ⟨k', hk', he⟩ := b (by simpa using h)
      refine ⟨k', by omega, ?_⟩
      rw [he]
      congr 1
      rw [List.count_cons_self]
      omega
    · rw [if_neg c1]
      by_cases c2 : bt s i = 43
      · rw [if_pos c2, c2]
        exact ⟨fun _ => rfl, fun h => absurd (by simp) h⟩
      · rw [if_neg c2]
        obtain ⟨a, b⟩ := ih k (i + 1) dol (by omega) (by omega) (by omega) (by omega)
        refine ⟨fun h => a ?_, fun h => ?_⟩
        · rcases List.mem_cons.1 h with h | h
          · exact absurd h.symm c2
          · exact h
        · obtain ⟨k', hk', he⟩ := b (fun hh => h (List.mem_cons_of_mem _ hh))
          refine ⟨k', by omega, ?_⟩
          rw [he, List.count_cons_of_ne c1]
theorem take_while (L : List Int) : L.take (L.takeWhile nd).length = L.takeWhile nd ∧ L.drop (L.takeWhile nd).length = L.dropWhile nd := by
  have key : ∀ T D : List Int, L = T ++ D → L.take T.length = T ∧ L.drop T.length = D := fun T D h => by
    rw [h]
    exact ⟨List.take_left, List.drop_left⟩
  exact key _ _ (List.takeWhile_append_dropWhile (p := nd) (l := L)).symm
theorem cell_mid (s : ByteArray) (hs : s.size ≤ 40) (dol : Int) (hd0 : -1 ≤ dol) (hd : dol ≤ 100) (at_ k : Nat) (ha : at_ ≤ s.size) (hk : 400 < k) :
    Spec.spec_Cell.j2 k s 0 dol at_ = some (cellMid ((nm8 s).drop at_) dol) := by
  obtain ⟨k, rfl⟩ : ∃ m, k = m + 1 := ⟨k - 1, by omega⟩
  simp only [Spec.spec_Cell.j2]
  obtain ⟨k', hk', he⟩ := cell_l1 s hs dol at_ (s.size - at_) k at_ (by omega) (by omega)
  obtain ⟨t1, t2⟩ := take_while ((nm8 s).drop at_)
  have hlen : at_ + (((nm8 s).drop at_).takeWhile nd).length ≤ s.size := by
    have : (((nm8 s).drop at_).takeWhile nd).length ≤ ((nm8 s).drop at_).length := (List.takeWhile_sublist _).length_le
    rw [List.length_drop, nm8_len] at this
    omega
  have := cell_j4 s hs dol hd0 hd at_ (((nm8 s).drop at_).takeWhile nd).length k' hlen (by omega) _ _ rfl rfl _ rfl
  rw [he, this, ← List.drop_drop, t1, t2]
  rfl
theorem cell_eval (s : ByteArray) (hs : s.size ≤ 40) : ∃ k, Spec.spec_Cell.f k s = some (cellV (nm8 s)) := by
  refine ⟨600, ?_⟩
  unfold Spec.spec_Cell.f cellV
  obtain ⟨a, b⟩ := cell_l0 s hs s.size 600 0 0 (by omega) (by omega) (by omega) (by omega)
  rw [List.drop_zero] at a b
  by_cases c : (43 : Int) ∈ nm8 s
  · rw [if_pos c]
    exact a c
  · rw [if_neg c]
    obtain ⟨k', hk', he⟩ := b c
    have hc : (nm8 s).count 36 ≤ 40 := Nat.le_trans List.count_le_length (by rw [nm8_len]; exact hs)
    have e0 : Spec.spec_Cell.l0 600 s 0 0 0 = Spec.spec_Cell.j1 k' s 0 (0 + ((nm8 s).count 36 : Nat)) 0 (flagA (nm8 s)) := he
    rw [e0]
    obtain ⟨k, rfl⟩ : ∃ m, k' = m + 1 := ⟨k' - 1, by omega⟩
    simp only [Spec.spec_Cell.j1]
    cases hA : flagA (nm8 s) with
    | true =>
      have h1 : 1 ≤ s.size := by
        unfold flagA at hA
        by_cases hh : 0 < s.size
        · exact hh
        · have := head_end s 0 (by omega)
          rw [List.drop_zero] at this
          rw [this] at hA; cases hA
      rw [if_pos rfl, w64 (by omega) (by omega), w64 (by omega) (by omega)]
      have := cell_mid s hs (0 + ((nm8 s).count 36 : Nat) - 1) (by omega) (by omega) 1 k h1 (by omega)
      have e1 : (0 : Int) + 1 = ((1 : Nat) : Int) := rfl
      rw [e1, this, Int.zero_add]
      rfl
    | false =>
      rw [if_neg (by decide)]
      have := cell_mid s hs (0 + ((nm8 s).count 36 : Nat)) (by omega) (by omega) 0 k (by omega) (by omega)
      have e1 : (0 : Int) = ((0 : Nat) : Int) := rfl
      have e2 : ((nm8 s).count 36 : Int) - ((false.toNat : Nat) : Int) = 0 + ((nm8 s).count 36 : Nat) := by simp
      rw [e2]
      exact this
end Go.Proofs.YthegckcffmlanaaDoor.Plain
