import Derived.Test.YthegckcffmlanaaDoorCellPlain
namespace Go.Proofs.YthegckcffmlanaaDoor
open Go.RowKit Go.Sort Go.Lib Go.Proofs.YthegckcffmlanaaDoorW.PrintWords
set_option maxHeartbeats 400000 in
theorem law5_out (col row : Int) (b : Bool) (w : World) (hp : HPow w) (h0 : HErr 0 w) (h1 : HErr 1 w) (h : ¬ InSheet col row) :
    Calls Tryd.prog 5 #[.int .i64 col, .int .i64 row, .bool b] w fun e w' => e = .returned (.bool true) ∧ Below w.heap.size w w' := by
  have HP := Aside0.mk hp
  have HN := Aside0.mk h
  have HC := Aside0.mk (show CcR col row b ⟨#[]⟩ false from Or.inl ⟨h, rfl, rfl⟩)
  clear hp h
  go_enter Tryd.func5, Tryd.ntmps5
  go_wp2_with (fail)
  go_at_call 13; refine (cell13_out col row b _ HN.out).mono ?_; rintro e w1 ⟨rfl, hb1⟩
  go_wp2_with (fail)
  go_at_call 14; refine (im14 col row b _ false _ (h0.later hb1) (h1.later hb1) (HP.out.later hb1) HC.out).mono ?_; rintro e w2 ⟨rfl, hb2⟩
  go_wp2
  go_ret
  exact ⟨rfl, below_step hb1 hb2⟩
set_option maxHeartbeats 1000000 in
theorem law5_in (col row : Int) (b : Bool) (w : World) (hT : HTabs w) (hp : HPow w) (h0 : HErr 0 w) (h1 : HErr 1 w) (h3 : HErr 3 w) (h4 : HErr 4 w) (h : InSheet col row) :
    Calls Tryd.prog 5 #[.int .i64 col, .int .i64 row, .bool b] w fun e w' => e = .returned (.bool true) ∧ Below w.heap.size w w' := by
  have HI := Aside0.mk h
  obtain ⟨c1, c2, c3, c4⟩ := h
  obtain ⟨k, hk⟩ := Plain.specName col c1 c2
  obtain ⟨k2, hk2⟩ := Plain.digits_itoa row (by omega) c4
  have hcn := Plain.cn_of col c1 c2
  have sx : (strOfNums (Plain.nameL col.toNat)).size ≤ 1000000 := by
    rw [strOfNums_size]
    have := Plain.name_short col.toNat (by omega)
    omega
  have sd : (Lib.itoa row).length ≤ 2000000 := by have := itoaLen row (by omega) c4; omega
  have sd2 : (⟨(Lib.itoa row).toArray⟩ : ByteArray).size ≤ 2000000 := by
    show (Lib.itoa row).toArray.size ≤ _
    rw [List.size_toArray]; exact sd
  obtain ⟨P, hP⟩ : ∃ P, P = strOfNums (Plain.nameL col.toNat) ++ ⟨(Lib.itoa row).toArray⟩ := ⟨_, rfl⟩
  obtain ⟨z1, r1, z2, r2⟩ := Plain.name_reads col row c1 c2 c3 c4 P hP
  have hlow := Plain.low_all P z1
  generalize strOfNums ((Plain.nm8 P).map Plain.lowI) = y at z2 r2 hlow
  have hcc : CcR col row b (nameS (strOfNums (Plain.nameL col.toNat)) ⟨(Lib.itoa row).toArray⟩ b) true := Or.inr ⟨HI.out, ⟨_, hcn, sx, sd, rfl⟩, rfl⟩
  have hpl : nameS (strOfNums (Plain.nameL col.toNat)) ⟨(Lib.itoa row).toArray⟩ false = P := by rw [hP]; rfl
  have k13 := fun (b : Bool) (w : World) => cell13_in col row b w HI.out _ _ k k2 hk hk2 sx sd2
  have k13f := fun (w : World) => k13 false w
  rw [hpl] at k13f
  have k13b := fun (w : World) => k13 b w
  generalize nameS (strOfNums (Plain.nameL col.toNat)) ⟨(Lib.itoa row).toArray⟩ b = X at hcc k13b
  have HP := Aside0.mk hp
  have HX := Aside0.mk hcc
  have KB := Aside0.mk k13b
  have KF := Aside0.mk k13f
  have HL := Aside0.mk hlow
  have R1 := Aside0.mk r1
  have R2 := Aside0.mk r2
  clear hp hcc k13b k13f hlow r1 r2 k13 hpl hk hk2 hcn sx sd sd2 hP
  go_enter Tryd.func5, Tryd.ntmps5
  go_wp2_with (fail)
  go_at_call 13; refine (KB.out _).mono ?_; rintro e w1 ⟨rfl, hb1⟩
  go_wp2_with (fail)
  go_at_call 14; refine (im14 col row b X true _ (h0.later hb1) (h1.later hb1) (HP.out.later hb1) HX.out).mono ?_; rintro e w2 ⟨rfl, hb2⟩
  have hb12 := below_step hb1 hb2
  go_wp2_with (fail)
  go_at_call 13; refine (KF.out _).mono ?_; rintro e w3 ⟨rfl, hb3⟩
  have hb13 := below_step hb12 hb3
  go_wp2_with (fail)
  go_at_call 12; refine (im12 P col row true _ z1 (hT.later hb13) (h0.later hb13) (h1.later hb13) (h3.later hb13) (h4.later hb13) R1.out).mono ?_; rintro e w4 ⟨rfl, hb4⟩
  have hb14 := below_step hb13 hb4
  go_wp2_with (fail)
  go_at_call 15; refine (PFnCellName.laws_lowered.calls _ P y _ HL.out).mono ?_; rintro e w5 ⟨rfl, hb5⟩
  have hb15 := below_step hb14 hb5
  go_wp2_with (fail)
  go_at_call 12; refine (im12 y col row true _ z2 (hT.later hb15) (h0.later hb15) (h1.later hb15) (h3.later hb15) (h4.later hb15) R2.out).mono ?_; rintro e w6 ⟨rfl, hb6⟩
  go_wp2
  go_ret
  exact ⟨rfl, below_step hb15 hb6⟩
theorem law5 (col row : Int) (b : Bool) (w : World) (hT : HTabs w) (hp : HPow w) (h0 : HErr 0 w) (h1 : HErr 1 w) (h3 : HErr 3 w) (h4 : HErr 4 w) :
    Calls Tryd.prog 5 #[.int .i64 col, .int .i64 row, .bool b] w fun e w' => e = .returned (.bool true) ∧ Below w.heap.size w w' := by
  by_cases h : InSheet col row
  · exact law5_in col row b w hT hp h0 h1 h3 h4 h
  · exact law5_out col row b w hp h0 h1 h
end Go.Proofs.YthegckcffmlanaaDoor
