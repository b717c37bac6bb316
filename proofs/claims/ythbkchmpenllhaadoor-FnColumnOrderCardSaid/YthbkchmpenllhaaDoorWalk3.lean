import Derived.Test.YthbkchmpenllhaaDoorWalk5
namespace Go.Proofs.YthbkchmpenllhaaDoor
open Go.RowKit Go.Proofs.YthbkchmpenllhaaDoorW.PrintWords
theorem retb {a b : Bool} (h : a = b) : Ending.returned (.bool a) = Ending.returned (.bool b) := by rw [h]
set_option maxHeartbeats 400000 in
theorem law3_of (a b x y : Int) (X Y : ByteArray) (w : World) (ad : Addr) (hc : w.cell? ⟨0, 0, none⟩ = some (.iface 41 (.pointer (some ad))))
    (hx : PFnColumnOrder.laws_part.f a 16384 = some x) (hy : PFnColumnOrder.laws_part.f b 16384 = some y) (x0 : 0 ≤ x) (x1 : x < 16384) (y0 : 0 ≤ y) (y1 : y < 16384)
    (hX : CnR (1 + x) X true) (hY : CnR (1 + y) Y true)
    (hne : X.size ≠ Y.size → (decide (X.size < Y.size) = decide (x < y)))
    (heq : X.size = Y.size → Op.bytesLess X.toList Y.toList = decide (x < y) ∧ (X.toList == Y.toList) = decide (x = y)) :
    Calls Tryd.prog 3 #[.int .i64 a, .int .i64 b] w fun e w' => e = .returned (.bool true) ∧ Below w.heap.size w w' := by
  have HX := Aside0.mk hx
  have HY := Aside0.mk hy
  have HW := Aside0.mk hc
  have HC1 := Aside0.mk hX
  have HC2 := Aside0.mk hY
  have HN := Aside0.mk hne
  have HE := Aside0.mk heq
  clear hx hy hc hX hY hne heq
  by_cases e : X.size = Y.size
  · have E1 := (HE.out e).1
    have E2 := Aside0.mk (HE.out e).2
    have e0 : ((X.size : Int) != (Y.size : Int)) = false := by simp [e]
    clear e
    go_enter Tryd.func3, Tryd.ntmps3
    go_wp2_with (fail)
    go_at_call 6; refine (PFnColumnOrder.laws_part.calls a 16384 x _ HX.out).mono ?_; rintro e w1 ⟨rfl, ⟨nd, rfl⟩⟩
    go_wp2_with (fail)
    go_at_call 6; refine (PFnColumnOrder.laws_part.calls b 16384 y _ HY.out).mono ?_; rintro e w1 ⟨rfl, ⟨nd2, rfl⟩⟩
    go_wp2_with (fail)
    go_at_call 7; refine (im7 (1 + x) X true _ ad (by simpa using HW.out) HC1.out).mono ?_; rintro e w2 ⟨rfl, hb2⟩
    go_wp2_with (fail)
    go_at_call 7; refine (im7 (1 + y) Y true _ ad (kept hb2 (by simpa using HW.out)) HC2.out).mono ?_; rintro e w3 ⟨rfl, hb3⟩
    go_wp2
    go_ret
    refine ⟨?_, below_step (pw_below_drewN (Below.refl _ _) _) (below_step hb2 hb3)⟩
    refine retb ?_
    rw [E2.out]
    by_cases hxy : x = y
    · subst hxy; simp
    · simp [hxy]
  · have E1 := Aside0.mk (HN.out e)
    have e0 : ((X.size : Int) != (Y.size : Int)) = true := by simp; omega
    clear e
    go_enter Tryd.func3, Tryd.ntmps3
    go_wp2_with (fail)
    go_at_call 6; refine (PFnColumnOrder.laws_part.calls a 16384 x _ HX.out).mono ?_; rintro e w1 ⟨rfl, ⟨nd, rfl⟩⟩
    go_wp2_with (fail)
    go_at_call 6; refine (PFnColumnOrder.laws_part.calls b 16384 y _ HY.out).mono ?_; rintro e w1 ⟨rfl, ⟨nd2, rfl⟩⟩
    go_wp2_with (fail)
    go_at_call 7; refine (im7 (1 + x) X true _ ad (by simpa using HW.out) HC1.out).mono ?_; rintro e w2 ⟨rfl, hb2⟩
    go_wp2_with (fail)
    go_at_call 7; refine (im7 (1 + y) Y true _ ad (kept hb2 (by simpa using HW.out)) HC2.out).mono ?_; rintro e w3 ⟨rfl, hb3⟩
    go_wp2
    go_ret
    refine ⟨?_, below_step (pw_below_drewN (Below.refl _ _) _) (below_step hb2 hb3)⟩
    refine retb ?_
    rw [E1.out]
    simp
theorem law3 (a b : Int) (w : World) (ad : Addr) (hc : w.cell? ⟨0, 0, none⟩ = some (.iface 41 (.pointer (some ad)))) :
    Calls Tryd.prog 3 #[.int .i64 a, .int .i64 b] w fun e w' => e = .returned (.bool true) ∧ Below w.heap.size w w' := by
  obtain ⟨x, hx, x0, x1⟩ := Plain.part_of a 16384 (by omega) (by omega)
  obtain ⟨y, hy, y0, y1⟩ := Plain.part_of b 16384 (by omega) (by omega)
  refine law3_of a b x y _ _ w ad hc hx hy x0 x1 y0 y1 (Plain.cn_of (1 + x) (by omega) (by omega)) (Plain.cn_of (1 + y) (by omega) (by omega)) ?_ ?_
  · intro h
    rw [strOfNums_size, strOfNums_size] at h
    rw [strOfNums_size, strOfNums_size, Bool.eq_iff_iff, decide_eq_true_iff, decide_eq_true_iff, Plain.order_len _ _ h]
    omega
  · intro h
    rw [strOfNums_size, strOfNums_size] at h
    rw [Plain.order_lex _ _ h, Plain.order_eq]
    refine ⟨?_, ?_⟩
    · rw [Bool.eq_iff_iff, decide_eq_true_iff, decide_eq_true_iff]; omega
    · rw [Bool.eq_iff_iff, decide_eq_true_iff, decide_eq_true_iff]; omega
end Go.Proofs.YthbkchmpenllhaaDoor
