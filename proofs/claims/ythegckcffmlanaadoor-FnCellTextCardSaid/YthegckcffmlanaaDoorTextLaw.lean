import Derived.Test.YthegckcffmlanaaDoorCellR
namespace Go.Proofs.YthegckcffmlanaaDoor
open Go.RowKit Go.Sort Go.Lib Go.Proofs.YthegckcffmlanaaDoorW.PrintWords
set_option maxHeartbeats 400000 in
theorem law4_skip (s : ByteArray) (w : World) (h : 40 < s.size) (hs : s.size ≤ 9223372036854775807) :
    Calls Tryd.prog 4 #[.string s] w fun e w' => e = .returned (.bool true) ∧ Below w.heap.size w w' := by
  by_cases h2 : 2147483647 < s.size
  · go_enter Tryd.func4, Tryd.ntmps4
    go_wp2
    go_ret
    exact ⟨rfl, Below.refl _ _⟩
  · go_enter Tryd.func4, Tryd.ntmps4
    go_wp2
    go_ret
    exact ⟨rfl, Below.refl _ _⟩
set_option maxHeartbeats 400000 in
theorem law4_unsaid_tt (s : ByteArray) (w : World) (hs : s.size ≤ 40) (hT : HTabs w) (h0 : HErr 0 w) (h1 : HErr 1 w) (h3 : HErr 3 w) (h4 : HErr 4 w) (k : Nat) (c r : Int) (col row : Int)
    (hk : Spec.spec_Cell.f k s = some (c, r, true, false)) (hc : CoR s col row true) :
    Calls Tryd.prog 4 #[.string s] w fun e w' => e = .returned (.bool true) ∧ Below w.heap.size w w' := by
  have HK := Aside0.mk hk
  have HC := Aside0.mk hc
  clear hk hc
  have hd : ∀ n, Below w.heap.size w (w.drewN n) := fun n => pw_below_drewN (Below.refl _ _) n
  have HD := Aside0.mk hd
  clear hd
  go_enter Tryd.func4, Tryd.ntmps4
  go_wp2_with (fail)
  go_at_call 11; refine (Spec.spec_Cell.calls k s c r true false _ HK.out).mono ?_; rintro e w1 ⟨rfl, ⟨nd, rfl⟩⟩
  go_wp2_with (fail)
  go_at_call 12; refine (im12 s col row true _ hs (hT.later (HD.out _)) (h0.later (HD.out _)) (h1.later (HD.out _)) (h3.later (HD.out _)) (h4.later (HD.out _)) HC.out).mono ?_; rintro e w2 ⟨rfl, hb⟩
  go_wp2
  go_ret
  exact ⟨rfl, below_step (HD.out _) hb⟩
set_option maxHeartbeats 400000 in
theorem law4_unsaid_tf (s : ByteArray) (w : World) (hs : s.size ≤ 40) (hT : HTabs w) (h0 : HErr 0 w) (h1 : HErr 1 w) (h3 : HErr 3 w) (h4 : HErr 4 w) (k : Nat) (c r : Int) (col row : Int)
    (hk : Spec.spec_Cell.f k s = some (c, r, true, false)) (hc : CoR s col row false) :
    Calls Tryd.prog 4 #[.string s] w fun e w' => e = .returned (.bool true) ∧ Below w.heap.size w w' := by
  have HK := Aside0.mk hk
  have HC := Aside0.mk hc
  clear hk hc
  have hd : ∀ n, Below w.heap.size w (w.drewN n) := fun n => pw_below_drewN (Below.refl _ _) n
  have HD := Aside0.mk hd
  clear hd
  go_enter Tryd.func4, Tryd.ntmps4
  go_wp2_with (fail)
  go_at_call 11; refine (Spec.spec_Cell.calls k s c r true false _ HK.out).mono ?_; rintro e w1 ⟨rfl, ⟨nd, rfl⟩⟩
  go_wp2_with (fail)
  go_at_call 12; refine (im12 s col row false _ hs (hT.later (HD.out _)) (h0.later (HD.out _)) (h1.later (HD.out _)) (h3.later (HD.out _)) (h4.later (HD.out _)) HC.out).mono ?_; rintro e w2 ⟨rfl, hb⟩
  go_wp2
  go_ret
  exact ⟨rfl, below_step (HD.out _) hb⟩
set_option maxHeartbeats 400000 in
theorem law4_unsaid_ft (s : ByteArray) (w : World) (hs : s.size ≤ 40) (hT : HTabs w) (h0 : HErr 0 w) (h1 : HErr 1 w) (h3 : HErr 3 w) (h4 : HErr 4 w) (k : Nat) (c r : Int) (col row : Int)
    (hk : Spec.spec_Cell.f k s = some (c, r, false, false)) (hc : CoR s col row true) :
    Calls Tryd.prog 4 #[.string s] w fun e w' => e = .returned (.bool true) ∧ Below w.heap.size w w' := by
  have HK := Aside0.mk hk
  have HC := Aside0.mk hc
  clear hk hc
  have hd : ∀ n, Below w.heap.size w (w.drewN n) := fun n => pw_below_drewN (Below.refl _ _) n
  have HD := Aside0.mk hd
  clear hd
  go_enter Tryd.func4, Tryd.ntmps4
  go_wp2_with (fail)
  go_at_call 11; refine (Spec.spec_Cell.calls k s c r false false _ HK.out).mono ?_; rintro e w1 ⟨rfl, ⟨nd, rfl⟩⟩
  go_wp2_with (fail)
  go_at_call 12; refine (im12 s col row true _ hs (hT.later (HD.out _)) (h0.later (HD.out _)) (h1.later (HD.out _)) (h3.later (HD.out _)) (h4.later (HD.out _)) HC.out).mono ?_; rintro e w2 ⟨rfl, hb⟩
  go_wp2
  go_ret
  exact ⟨rfl, below_step (HD.out _) hb⟩
set_option maxHeartbeats 400000 in
theorem law4_unsaid_ff (s : ByteArray) (w : World) (hs : s.size ≤ 40) (hT : HTabs w) (h0 : HErr 0 w) (h1 : HErr 1 w) (h3 : HErr 3 w) (h4 : HErr 4 w) (k : Nat) (c r : Int) (col row : Int)
    (hk : Spec.spec_Cell.f k s = some (c, r, false, false)) (hc : CoR s col row false) :
    Calls Tryd.prog 4 #[.string s] w fun e w' => e = .returned (.bool true) ∧ Below w.heap.size w w' := by
  have HK := Aside0.mk hk
  have HC := Aside0.mk hc
  clear hk hc
  have hd : ∀ n, Below w.heap.size w (w.drewN n) := fun n => pw_below_drewN (Below.refl _ _) n
  have HD := Aside0.mk hd
  clear hd
  go_enter Tryd.func4, Tryd.ntmps4
  go_wp2_with (fail)
  go_at_call 11; refine (Spec.spec_Cell.calls k s c r false false _ HK.out).mono ?_; rintro e w1 ⟨rfl, ⟨nd, rfl⟩⟩
  go_wp2_with (fail)
  go_at_call 12; refine (im12 s col row false _ hs (hT.later (HD.out _)) (h0.later (HD.out _)) (h1.later (HD.out _)) (h3.later (HD.out _)) (h4.later (HD.out _)) HC.out).mono ?_; rintro e w2 ⟨rfl, hb⟩
  go_wp2
  go_ret
  exact ⟨rfl, below_step (HD.out _) hb⟩
set_option maxHeartbeats 400000 in
theorem law4_yes (s : ByteArray) (w : World) (hs : s.size ≤ 40) (hT : HTabs w) (h0 : HErr 0 w) (h1 : HErr 1 w) (h3 : HErr 3 w) (h4 : HErr 4 w) (k : Nat) (c r : Int)
    (hk : Spec.spec_Cell.f k s = some (c, r, true, true)) (hc : CoR s c r true) :
    Calls Tryd.prog 4 #[.string s] w fun e w' => e = .returned (.bool true) ∧ Below w.heap.size w w' := by
  have HK := Aside0.mk hk
  have HC := Aside0.mk hc
  clear hk hc
  have hd : ∀ n, Below w.heap.size w (w.drewN n) := fun n => pw_below_drewN (Below.refl _ _) n
  have HD := Aside0.mk hd
  clear hd
  go_enter Tryd.func4, Tryd.ntmps4
  go_wp2_with (fail)
  go_at_call 11; refine (Spec.spec_Cell.calls k s c r true true _ HK.out).mono ?_; rintro e w1 ⟨rfl, ⟨nd, rfl⟩⟩
  go_wp2_with (fail)
  go_at_call 12; refine (im12 s c r true _ hs (hT.later (HD.out _)) (h0.later (HD.out _)) (h1.later (HD.out _)) (h3.later (HD.out _)) (h4.later (HD.out _)) HC.out).mono ?_; rintro e w2 ⟨rfl, hb⟩
  go_wp2
  go_ret
  exact ⟨rfl, below_step (HD.out _) hb⟩
set_option maxHeartbeats 400000 in
theorem law4_no (s : ByteArray) (w : World) (hs : s.size ≤ 40) (hT : HTabs w) (h0 : HErr 0 w) (h1 : HErr 1 w) (h3 : HErr 3 w) (h4 : HErr 4 w) (k : Nat) (c r : Int) (col row : Int)
    (hk : Spec.spec_Cell.f k s = some (c, r, false, true)) (hc : CoR s col row false) :
    Calls Tryd.prog 4 #[.string s] w fun e w' => e = .returned (.bool true) ∧ Below w.heap.size w w' := by
  have HK := Aside0.mk hk
  have HC := Aside0.mk hc
  clear hk hc
  have hd : ∀ n, Below w.heap.size w (w.drewN n) := fun n => pw_below_drewN (Below.refl _ _) n
  have HD := Aside0.mk hd
  clear hd
  go_enter Tryd.func4, Tryd.ntmps4
  go_wp2_with (fail)
  go_at_call 11; refine (Spec.spec_Cell.calls k s c r false true _ HK.out).mono ?_; rintro e w1 ⟨rfl, ⟨nd, rfl⟩⟩
  go_wp2_with (fail)
  go_at_call 12; refine (im12 s col row false _ hs (hT.later (HD.out _)) (h0.later (HD.out _)) (h1.later (HD.out _)) (h3.later (HD.out _)) (h4.later (HD.out _)) HC.out).mono ?_; rintro e w2 ⟨rfl, hb⟩
  go_wp2
  go_ret
  exact ⟨rfl, below_step (HD.out _) hb⟩
theorem law4 (s : ByteArray) (w : World) (hs : s.size ≤ 9223372036854775807) (hT : HTabs w) (h0 : HErr 0 w) (h1 : HErr 1 w) (h3 : HErr 3 w) (h4 : HErr 4 w) :
    Calls Tryd.prog 4 #[.string s] w fun e w' => e = .returned (.bool true) ∧ Below w.heap.size w w' := by
  by_cases h : 40 < s.size
  · exact law4_skip s w h hs
  · have h40 : s.size ≤ 40 := by omega
    obtain ⟨k, hk⟩ := Plain.cell_eval s h40
    cases hv : Plain.cellV (Plain.nm8 s) with
    | mk c q =>
      obtain ⟨r, is, said⟩ := q
      rw [hv] at hk
      cases said with
      | true =>
        obtain ⟨col, row, hC, he⟩ := Plain.cell_agrees s h40 c r is hv
        cases is with
        | true =>
          obtain ⟨rfl, rfl⟩ := he rfl
          exact law4_yes s w h40 hT h0 h1 h3 h4 k _ _ hk hC
        | false => exact law4_no s w h40 hT h0 h1 h3 h4 k c r col row hk hC
      | false =>
        have : ∃ col row b, CoR s col row b := by
          rcases Plain.co_all s h40 with ⟨col, row, h⟩ | ⟨C, R, col, row, h⟩
          · exact ⟨col, row, false, h⟩
          · exact ⟨col, row, true, Plain.co_reads h40 h⟩
        obtain ⟨col, row, b, hC⟩ := this
        cases is with
        | true =>
          cases b with
          | true => exact law4_unsaid_tt s w h40 hT h0 h1 h3 h4 k c r col row hk hC
          | false => exact law4_unsaid_tf s w h40 hT h0 h1 h3 h4 k c r col row hk hC
        | false =>
          cases b with
          | true => exact law4_unsaid_ft s w h40 hT h0 h1 h3 h4 k c r col row hk hC
          | false => exact law4_unsaid_ff s w h40 hT h0 h1 h3 h4 k c r col row hk hC
end Go.Proofs.YthegckcffmlanaaDoor
