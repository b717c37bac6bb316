import Derived.Test.YthegckcffmlanaaDoorCellPlain
namespace Go.Proofs.YthegckcffmlanaaDoor
open Go.RowKit Go.Sort Go.Lib Go.Proofs.YthegckcffmlanaaDoorW.PrintWords
def PartEnd (n : Int) (w : World) (e : Ending) (w' : World) : Prop := ∃ r, 0 ≤ r ∧ r < n ∧ e = .returned (.int .i64 r) ∧ w' = w
set_option maxHeartbeats 400000 in
theorem part16 (k n : Int) (w : World) (hn : 0 < n) (hn2 : n ≤ 1048576) : Calls Tryd.prog 16 #[.int .i64 k, .int .i64 n] w (PartEnd n w) := by
  have h1 := Int.tmod_lt_of_pos k hn
  have h2 : -n < Int.tmod k n := by
    have := Int.lt_tmod_of_pos k hn
    omega
  go_enter Tryd.func16, Tryd.ntmps16
  go_wp2_with (fail)
  · have hneg : k.tmod n < 0 := by assumption
    go_ret
    exact ⟨_, by omega, by omega, rfl, rfl⟩
  · have hpos : 0 ≤ k.tmod n := by assumption
    go_ret
    exact ⟨_, by omega, by omega, rfl, rfl⟩
/-- A cell's name is split into its column's name and its row, and joined from both. -/
theorem name_split (col row : Int) (h1 : 1 ≤ col) (h2 : col ≤ 16384) (h3 : 1 ≤ row) (h4 : row ≤ 1048576) (P : ByteArray) (hP : P = strOfNums (Plain.nameL col.toNat) ++ ⟨(Lib.itoa row).toArray⟩) :
    P.size ≤ 40 ∧ SplitR P (strOfNums (Plain.nameL col.toNat)) row true ∧ (strOfNums (Plain.nameL col.toNat)).size ≤ 40 ∧ JnR (strOfNums (Plain.nameL col.toNat)) row P true := by
  have hl := Plain.nameL_letters col.toNat
  have hr : ∀ c ∈ Plain.nameL col.toNat, 0 ≤ c ∧ c ≤ 255 := fun c hc => by have := hl c hc; omega
  have e1 : Plain.nm8 P = Plain.nameL col.toNat ++ Plain.nums8 (Lib.itoa row) := by
    rw [hP, Plain.nm8_append, Plain.nm8_str _ hr]
    rfl
  have e2 := Plain.nm8_str _ hr
  have hsz := (Plain.name_reads col row h1 h2 h3 h4 P hP).1
  have hv : Plain.val 0 (Plain.nameL col.toNat) = col := by rw [Plain.val_nameL]; omega
  have r1 := Plain.reads_name P (Plain.nameL col.toNat) col row e1 (Plain.nameL_isL _) hv h1 h2 h3 h4
  have hs := Plain.split_parts r1.parts hsz r1.some row h3 r1.row
  have hcol : Plain.colOf (Plain.nameL col.toNat) = Plain.nameL col.toNat := Plain.filter_none _ (fun h => by have := hl 36 h; omega)
  rw [hcol] at hs
  have hsx : (strOfNums (Plain.nameL col.toNat)).size ≤ 40 := by
    rw [strOfNums_size]
    have := Plain.name_short col.toNat (by omega)
    omega
  have hL : ∀ c ∈ Plain.nm8 (strOfNums (Plain.nameL col.toNat)), Plain.isL c := by rw [e2]; exact Plain.nameL_isL _
  refine ⟨hsz, hs, hsx, Or.inr (Or.inr ⟨col, Plain.nm_great col h1 h2, h3, h4, Plain.ascii_of _ hL, ?_, rfl⟩)⟩
  rw [Plain.upper_name _ hL, e2, hv, hP]
set_option maxHeartbeats 1000000 in
theorem law6 (a b : Int) (w : World) (hT : HTabs w) (hp : HPow w) (h1 : HErr 1 w) (h3 : HErr 3 w) (h4 : HErr 4 w) :
    Calls Tryd.prog 6 #[.int .i64 a, .int .i64 b] w fun e w' => e = .returned (.bool true) ∧ Below w.heap.size w w' := by
  have HP := Aside0.mk hp
  clear hp
  go_enter Tryd.func6, Tryd.ntmps6
  go_wp2_with (fail)
  go_at_call 16; refine (part16 a 16384 _ (by omega) (by omega)).mono ?_; rintro e w1 ⟨x, x0, x1, rfl, rfl⟩
  go_wp2_with (fail)
  go_at_call 16; refine (part16 b 1048576 _ (by omega) (by omega)).mono ?_; rintro e w2 ⟨y, y0, y1, rfl, rfl⟩
  have d1 : (1 : Int) ≤ 1 + x := by omega
  have d2 : 1 + x ≤ 16384 := by omega
  have d3 : (1 : Int) ≤ 1 + y := by omega
  have d4 : 1 + y ≤ 1048576 := by omega
  obtain ⟨k, hk⟩ := Plain.specName (1 + x) d1 d2
  obtain ⟨k2, hk2⟩ := Plain.digits_itoa (1 + y) (by omega) d4
  have sx : (strOfNums (Plain.nameL (1 + x).toNat)).size ≤ 1000000 := by
    rw [strOfNums_size]
    have := Plain.name_short (1 + x).toNat (by omega)
    omega
  have sd2 : (⟨(Lib.itoa (1 + y)).toArray⟩ : ByteArray).size ≤ 2000000 := by
    show (Lib.itoa (1 + y)).toArray.size ≤ _
    rw [List.size_toArray]
    have := itoaLen (1 + y) (by omega) d4
    omega
  obtain ⟨P, hP⟩ : ∃ P, P = strOfNums (Plain.nameL (1 + x).toNat) ++ ⟨(Lib.itoa (1 + y)).toArray⟩ := ⟨_, rfl⟩
  obtain ⟨z1, r1, z2, r2⟩ := name_split (1 + x) (1 + y) d1 d2 d3 d4 P hP
  have hpl : nameS (strOfNums (Plain.nameL (1 + x).toNat)) ⟨(Lib.itoa (1 + y)).toArray⟩ false = P := by rw [hP]; rfl
  have k13 := fun (w : World) => cell13_in (1 + x) (1 + y) false w ⟨d1, d2, d3, d4⟩ _ _ k k2 hk hk2 sx sd2
  rw [hpl] at k13
  generalize strOfNums (Plain.nameL (1 + x).toNat) = X at r1 z2 r2 hk
  have K13 := Aside0.mk k13
  have HK := Aside0.mk hk
  have R1 := Aside0.mk r1
  have R2 := Aside0.mk r2
  have HT := Aside0.mk hT
  clear k13 hk r1 r2 hk2 hpl hP sd2 sx hT d1 d2 d3 d4
  go_wp2_with (fail)
  go_at_call 13; refine (K13.out _).mono ?_; rintro e w3 ⟨rfl, hb3⟩
  go_wp2_with (fail)
  go_at_call 9; refine (Spec.spec_ColumnName.calls k (1 + x) X true _ HK.out).mono ?_; rintro e w4 ⟨rfl, hb4⟩
  have hb34 := below_step hb3 hb4
  go_wp2_with (fail)
  go_at_call 17; refine (im17 P X (1 + y) true _ z1 (HT.out.later hb34) (h3.later hb34) (h4.later hb34) R1.out).mono ?_; rintro e w5 ⟨rfl, hb5⟩
  have hb35 := below_step hb34 hb5
  go_wp2_with (fail)
  go_at_call 8; refine (im8 X (1 + y) P true _ z2 (h1.later hb35) (HP.out.later hb35) R2.out).mono ?_; rintro e w6 ⟨rfl, hb6⟩
  go_wp2
  go_ret
  exact ⟨rfl, below_step hb35 hb6⟩
end Go.Proofs.YthegckcffmlanaaDoor
