import Derived.Test.YthegckcffmlanaaDoorJoinPlain
namespace Go.Proofs.YthegckcffmlanaaDoor
open Go.RowKit Go.Sort Go.Proofs.YthegckcffmlanaaDoorW.PrintWords
set_option maxHeartbeats 400000 in
theorem law3_skip (s : ByteArray) (row : Int) (w : World) (h : 40 < s.size ∨ 1048576 < row) (hs : s.size ≤ 9223372036854775807) :
    Calls Tryd.prog 3 #[.string s, .int .i64 row] w fun e w' => e = .returned (.bool true) ∧ Below w.heap.size w w' := by
  by_cases h0 : 2147483647 < s.size
  · clear h
    go_enter Tryd.func3, Tryd.ntmps3
    go_wp2
    go_ret
    exact ⟨rfl, Below.refl _ _⟩
  · by_cases h1 : 40 < s.size
    · clear h
      go_enter Tryd.func3, Tryd.ntmps3
      go_wp2
      go_ret
      exact ⟨rfl, Below.refl _ _⟩
    · have h2 : 1048576 < row := by omega
      clear h
      go_enter Tryd.func3, Tryd.ntmps3
      go_wp2
      go_ret
      exact ⟨rfl, Below.refl _ _⟩
set_option maxHeartbeats 400000 in
theorem law3_no (s : ByteArray) (row : Int) (w : World) (hs : s.size ≤ 40) (hr : row ≤ 1048576) (he : HErr 1 w) (hp : HPow w) (k : Nat) (v : Int) (b : Bool) (hb1 : b = false ∨ row < 1)
    (hk : PFnCellText.spec_ColumnNumber.f k s = some (v, b)) (x : ByteArray) (hj : JnR s row x false) :
    Calls Tryd.prog 3 #[.string s, .int .i64 row] w fun e w' => e = .returned (.bool true) ∧ Below w.heap.size w w' := by
  have HK := Aside0.mk hk
  have HJ := Aside0.mk hj
  have HE := Aside0.mk he
  have HP := Aside0.mk hp
  clear hk hj he hp
  by_cases hr1 : row < 1
  · clear hb1
    cases b with
    | false =>
      go_enter Tryd.func3, Tryd.ntmps3
      go_wp2_with (first | (go_at_call 7; refine (PFnCellText.spec_ColumnNumber.calls k s v false _ HK.out).mono ?_; rintro e w' ⟨rfl, ⟨nd, rfl⟩⟩) | (go_at_call 8; refine (im8 s row x false _ hs (HE.out.later (pw_below_drewN (Below.refl _ _) _)) (HP.out.later (pw_below_drewN (Below.refl _ _) _)) HJ.out).mono ?_; rintro e w' ⟨rfl, hb⟩))
      go_ret
      exact ⟨rfl, below_step (pw_below_drewN (Below.refl _ _) _) hb⟩
    | true =>
      go_enter Tryd.func3, Tryd.ntmps3
      go_wp2_with (first | (go_at_call 7; refine (PFnCellText.spec_ColumnNumber.calls k s v true _ HK.out).mono ?_; rintro e w' ⟨rfl, ⟨nd, rfl⟩⟩) | (go_at_call 8; refine (im8 s row x false _ hs (HE.out.later (pw_below_drewN (Below.refl _ _) _)) (HP.out.later (pw_below_drewN (Below.refl _ _) _)) HJ.out).mono ?_; rintro e w' ⟨rfl, hb⟩))
      go_ret
      exact ⟨rfl, below_step (pw_below_drewN (Below.refl _ _) _) hb⟩
  · obtain rfl : b = false := hb1.resolve_right hr1
    clear hb1
    go_enter Tryd.func3, Tryd.ntmps3
    go_wp2_with (first | (go_at_call 7; refine (PFnCellText.spec_ColumnNumber.calls k s v false _ HK.out).mono ?_; rintro e w' ⟨rfl, ⟨nd, rfl⟩⟩) | (go_at_call 8; refine (im8 s row x false _ hs (HE.out.later (pw_below_drewN (Below.refl _ _) _)) (HP.out.later (pw_below_drewN (Below.refl _ _) _)) HJ.out).mono ?_; rintro e w' ⟨rfl, hb⟩))
    go_ret
    exact ⟨rfl, below_step (pw_below_drewN (Below.refl _ _) _) hb⟩
set_option maxHeartbeats 400000 in
theorem law3_yes (s : ByteArray) (row : Int) (w : World) (hs : s.size ≤ 40) (hr0 : 1 ≤ row) (hr : row ≤ 1048576) (he : HErr 1 w) (hp : HPow w) (k k2 k3 : Nat) (v : Int)
    (hk : PFnCellText.spec_ColumnNumber.f k s = some (v, true)) (x y : ByteArray) (hj : JnR s row (x ++ y) true) (hx : Spec.spec_ColumnName.f k2 v = some (x, true)) (hy : Spec.spec_Digits.f k3 row 10 = some y)
    (hl : x.size + y.size ≤ 9223372036854775807) :
    Calls Tryd.prog 3 #[.string s, .int .i64 row] w fun e w' => e = .returned (.bool true) ∧ Below w.heap.size w w' := by
  have HK := Aside0.mk hk
  have HJ := Aside0.mk hj
  have HE := Aside0.mk he
  have HP := Aside0.mk hp
  have HX := Aside0.mk hx
  have HY := Aside0.mk hy
  clear hk hj he hp hx hy
  go_enter Tryd.func3, Tryd.ntmps3
  go_wp2_with (fail)
  go_at_call 7; refine (PFnCellText.spec_ColumnNumber.calls k s v true _ HK.out).mono ?_; rintro e w' ⟨rfl, ⟨nd, rfl⟩⟩
  go_wp2_with (fail)
  go_at_call 8; refine (im8 s row (x ++ y) true _ hs (HE.out.later (pw_below_drewN (Below.refl _ _) _)) (HP.out.later (pw_below_drewN (Below.refl _ _) _)) HJ.out).mono ?_; rintro e w2 ⟨rfl, hb⟩
  go_wp2_with (fail)
  go_at_call 9; refine (Spec.spec_ColumnName.calls k2 v x true _ HX.out).mono ?_; rintro e w3 ⟨rfl, hb3⟩
  go_wp2_with (fail)
  go_at_call 10; refine (Spec.spec_Digits.calls k3 row 10 y _ HY.out).mono ?_; rintro e w4 ⟨rfl, ⟨nd4, rfl⟩⟩
  go_wp2
  go_ret
  exact ⟨rfl, below_step (pw_below_drewN (Below.refl _ _) _) (below_step hb (below_step hb3 (pw_below_drewN (Below.refl _ _) _)))⟩
theorem law3 (s : ByteArray) (row : Int) (w : World) (hs : s.size ≤ 9223372036854775807) (he : HErr 1 w) (hp : HPow w) :
    Calls Tryd.prog 3 #[.string s, .int .i64 row] w fun e w' => e = .returned (.bool true) ∧ Below w.heap.size w w' := by
  by_cases h : 40 < s.size ∨ 1048576 < row
  · exact law3_skip s row w h hs
  · have h40 : s.size ≤ 40 := by omega
    have hr : row ≤ 1048576 := by omega
    obtain ⟨k, hk⟩ := Plain.specNum s hs
    have hR := Plain.nmR_all s
    by_cases c : Plain.okL 0 (Plain.nm8 s) = true ∧ 0 < Plain.val 0 (Plain.nm8 s)
    · rw [if_pos c.1, decide_eq_true c.2] at hk
      rw [if_pos c, c.1, decide_eq_true c.2] at hR
      obtain ⟨hL, hV⟩ := (Plain.okL_iff _ _).1 c.1
      by_cases hr1 : row < 1
      · exact law3_no s row w h40 hr he hp k _ true (Or.inr hr1) hk ⟨#[]⟩ (Or.inr (Or.inl ⟨_, hR, hr1, rfl, rfl⟩))
      · obtain ⟨k2, hx⟩ := Plain.specName (Plain.val 0 (Plain.nm8 s)) (by omega) hV
        obtain ⟨k3, hy⟩ := Plain.digits_itoa row (by omega) hr
        refine law3_yes s row w h40 (by omega) hr he hp k k2 k3 _ hk _ _ ?_ hx hy ?_
        · refine Or.inr (Or.inr ⟨_, hR, by omega, hr, Plain.ascii_of s hL, ?_, rfl⟩)
          rw [Plain.upper_name s hL]
        · have h1 := Plain.nameL_len_le (Plain.val 0 (Plain.nm8 s)).toNat
          have h2 := itoaLen row (by omega) hr
          rw [strOfNums_size]
          show _ + (Lib.itoa row).toArray.size ≤ _
          rw [List.size_toArray]
          omega
    · have hR2 : NmR s (-1) false := by
        rw [if_neg c] at hR
        have e : (Plain.okL 0 (Plain.nm8 s) && decide (0 < Plain.val 0 (Plain.nm8 s))) = false := by
          rw [Bool.eq_false_iff]; intro hh; rw [Bool.and_eq_true, decide_eq_true_iff] at hh; exact c hh
        rw [e] at hR
        exact hR
      have hk2 : ∃ v, PFnCellText.spec_ColumnNumber.f k s = some (v, false) := by
        by_cases c1 : Plain.okL 0 (Plain.nm8 s) = true
        · rw [if_pos c1, decide_eq_false (fun h => c ⟨c1, h⟩)] at hk; exact ⟨_, hk⟩
        · rw [if_neg c1] at hk; exact ⟨_, hk⟩
      obtain ⟨v, hv⟩ := hk2
      exact law3_no s row w h40 hr he hp k v false (Or.inl rfl) hv ⟨#[]⟩ (Or.inl ⟨_, hR2, rfl, rfl⟩)
end Go.Proofs.YthegckcffmlanaaDoor
