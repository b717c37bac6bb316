import Derived.Test.YthbkchmpenllhaaDoorNames
namespace Go.Proofs.YthbkchmpenllhaaDoor
open Go.RowKit Go.Proofs.YthbkchmpenllhaaDoorW.PrintWords
/-- The cell of the listed variable stays. -/
theorem kept {w W : World} {v : Value} (hb : Below w.heap.size w W) (hc : w.cell? ⟨0, 0, none⟩ = some v) : W.cell? ⟨0, 0, none⟩ = some v :=
  (hb.cell (World.block_lt_of_cell? _ _ hc)).trans hc
set_option maxHeartbeats 400000 in
theorem law5_out (n : Int) (w : World) (h : n < 1 ∨ 16384 < n) (a : Addr) (hc : w.cell? ⟨0, 0, none⟩ = some (.iface 41 (.pointer (some a)))) :
    Calls Tryd.prog 5 #[.int .i64 n] w fun e w' => e = .returned (.bool true) ∧ Below w.heap.size w w' := by
  have HK := Aside0.mk (Plain.specName_out n h)
  have HC := Aside0.mk (Plain.cn_out n h)
  have HW := Aside0.mk hc
  clear h hc
  go_enter Tryd.func5, Tryd.ntmps5
  go_wp2_with (first | (go_at_call 10; refine (PFnColumnName.spec_ColumnName.calls 1 n _ false _ HK.out).mono ?_; rintro e w1 ⟨rfl, hb1⟩) | (go_at_call 7; refine (im7 n _ false _ a (kept hb1 HW.out) HC.out).mono ?_; rintro e w2 ⟨rfl, hb2⟩))
  go_ret
  exact ⟨rfl, below_step hb1 hb2⟩
set_option maxHeartbeats 400000 in
theorem law5_in (n : Int) (w : World) (h1 : 1 ≤ n) (h2 : n ≤ 16384) (a : Addr) (hc : w.cell? ⟨0, 0, none⟩ = some (.iface 41 (.pointer (some a)))) :
    Calls Tryd.prog 5 #[.int .i64 n] w fun e w' => e = .returned (.bool true) ∧ Below w.heap.size w w' := by
  obtain ⟨k1, hk1⟩ := Plain.specName n h1 h2
  have hlen : (Plain.nameL n.toNat).length ≤ 16384 := Nat.le_trans (Plain.nameL_len_le _) (by omega)
  obtain ⟨k2, hk2⟩ := Plain.lowered (Plain.nameL n.toNat) (Plain.nameL_letters _) hlen
  have hn1 := Plain.nm_great n h1 h2
  have hn2 := Plain.nm_small n h1 h2
  have hcn := Plain.cn_of n h1 h2
  have s1 : (strOfNums (Plain.nameL n.toNat)).size ≤ 9223372036854775807 := by rw [strOfNums_size]; omega
  have s2 : (strOfNums ((Plain.nameL n.toNat).map (· + 32))).size ≤ 9223372036854775807 := by rw [strOfNums_size, List.length_map]; omega
  generalize strOfNums ((Plain.nameL n.toNat).map (· + 32)) = y at hk2 hn2 s2
  generalize strOfNums (Plain.nameL n.toNat) = x at hk1 hk2 hn1 hcn s1
  have HK1 := Aside0.mk hk1
  have HK2 := Aside0.mk hk2
  have HN1 := Aside0.mk hn1
  have HN2 := Aside0.mk hn2
  have HC := Aside0.mk hcn
  have HW := Aside0.mk hc
  clear hk1 hk2 hn1 hn2 hcn hc hlen h1 h2
  go_enter Tryd.func5, Tryd.ntmps5
  go_wp2_with (fail)
  go_at_call 10; refine (PFnColumnName.spec_ColumnName.calls k1 n x true _ HK1.out).mono ?_; rintro e w1 ⟨rfl, hb1⟩
  go_wp2_with (fail)
  go_at_call 7; refine (im7 n x true _ a (kept hb1 HW.out) HC.out).mono ?_; rintro e w2 ⟨rfl, hb2⟩
  go_wp2_with (fail)
  go_at_call 9; refine (im9 x n true _ s1 a (kept hb2 (kept hb1 HW.out)) HN1.out).mono ?_; rintro e w3 ⟨rfl, hb3⟩
  go_wp2_with (fail)
  go_at_call 11; refine (PFnColumnName.laws_lowered.calls k2 x y _ HK2.out).mono ?_; rintro e w4 ⟨rfl, hb4⟩
  go_wp2_with (fail)
  go_at_call 9; refine (im9 y n true _ s2 a (kept hb4 (kept hb3 (kept hb2 (kept hb1 HW.out)))) HN2.out).mono ?_; rintro e w5 ⟨rfl, hb5⟩
  go_wp2
  go_ret
  exact ⟨rfl, below_step hb1 (below_step hb2 (below_step hb3 (below_step hb4 hb5)))⟩
theorem law5 (n : Int) (w : World) (a : Addr) (hc : w.cell? ⟨0, 0, none⟩ = some (.iface 41 (.pointer (some a)))) :
    Calls Tryd.prog 5 #[.int .i64 n] w fun e w' => e = .returned (.bool true) ∧ Below w.heap.size w w' := by
  by_cases h : 1 ≤ n ∧ n ≤ 16384
  · exact law5_in n w h.1 h.2 a hc
  · exact law5_out n w (by omega) a hc
end Go.Proofs.YthbkchmpenllhaaDoor
