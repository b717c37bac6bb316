import Derived.Test.YthegckcffmlanaaDoorRunes
import Derived.Test.YthegckcffmlanaaDoorPFnCellTextx3
import Derived.Deep.RegionHeld3
namespace Go.Proofs.YthegckcffmlanaaDoor
open Go.RowKit Go.Sort Go.Lib Go.Proofs.YthegckcffmlanaaDoorW.PrintWords
set_option maxHeartbeats 400000 in
theorem alpha30 (x : Nat) (w : World) : Calls Tryd.prog 30 #[.int .i32 x] w fun e w' => e = .returned (.bool (Plain.alphaN x)) ∧ ∃ q, w' = w.drewN q := by
  by_cases h1 : (65 : Int) ≤ (x : Int)
  · by_cases h2 : (x : Int) ≤ 90
    · go_enter Tryd.func30, Tryd.ntmps30
      go_wp2
      go_ret
      exact ⟨by unfold Plain.alphaN; rw [decide_eq_true (by omega : 65 ≤ x), decide_eq_true (by omega : x ≤ 90)]; rfl, 0, rfl⟩
    · by_cases h3 : (97 : Int) ≤ (x : Int)
      · by_cases h4 : (x : Int) ≤ 122
        · go_enter Tryd.func30, Tryd.ntmps30
          go_wp2
          go_ret
          exact ⟨by unfold Plain.alphaN; rw [decide_eq_false (by omega : ¬ x ≤ 90), decide_eq_true (by omega : 97 ≤ x), decide_eq_true (by omega : x ≤ 122)]; simp, 0, rfl⟩
        · have h5 : ((x : Int) == 36) = false := by simp; omega
          go_enter Tryd.func30, Tryd.ntmps30
          go_wp2
          go_ret
          exact ⟨by rw [Plain.alphaN_no (by omega) (by omega) (by omega)]; rfl, 0, rfl⟩
      · have h5 : ((x : Int) == 36) = false := by simp; omega
        go_enter Tryd.func30, Tryd.ntmps30
        go_wp2
        go_ret
        exact ⟨by rw [Plain.alphaN_no (by omega) (by omega) (by omega)]; rfl, 0, rfl⟩
  · have h3 : ¬ (97 : Int) ≤ (x : Int) := by omega
    by_cases h5 : x = 36
    · subst h5
      go_enter Tryd.func30, Tryd.ntmps30
      go_wp2
      go_ret
      exact ⟨by rw [show Plain.alphaN 36 = true by decide]; rfl, 0, rfl⟩
    · have h6 : ((x : Int) == 36) = false := by simp; omega
      go_enter Tryd.func30, Tryd.ntmps30
      go_wp2
      go_ret
      exact ⟨by rw [Plain.alphaN_no (by omega) (by omega) h5]; rfl, 0, rfl⟩
theorem enters30 : ∀ args w, (callFunc 30 args).run Tryd.prog w = .ok (.enter 30 args) w := enters_of Tryd.func30 (by kernel_rfl) rfl
theorem pred30 (w : World) : PredAt Tryd.prog 30 #[] encR Plain.alphaN w := fun W x _ => by
  unfold FnGives
  exact alpha30 x W
set_option maxHeartbeats 400000 in
theorem last32 (s : ByteArray) (r : Int) (w : World) (hs : s.size ≤ 40) (hT : HTabs w) (hr : lastIdxFunc Plain.alphaN true s = r) :
    Calls Tryd.prog 32 #[.string s, .func (.func 30) #[] #[]] w fun e w' => e = .returned (.int .i64 r) ∧ Below w.heap.size w w' := by
  subst hr
  go_enter Tryd.func32, Tryd.ntmps32
  go_wp2_with (go_at_call 47; refine (Tryd.strings_lastIndexFunc 30 #[] enters30 Plain.alphaN true s _ (by omega) hT (pred30 _)).mono ?_; rintro e w' ⟨rfl, hb⟩)
  go_ret
  exact ⟨rfl, hb⟩
def SpEnd (c : ByteArray) (v : Int) (b : Bool) (w : World) (e : Ending) (w' : World) : Prop := ∃ x, ErrB b x ∧ e = .returned (.tuple #[.string c, .int .i64 v, x]) ∧ Below w.heap.size w w'
set_option maxHeartbeats 400000 in
theorem badCell (s : ByteArray) (w : World) :
    Calls Tryd.prog 35 #[.string s] w fun e w' => e = .returned (.iface 75 (.pointer (some ⟨w.heap.size, 0, none⟩))) ∧ Below w.heap.size w w' := by
  go_enter Tryd.func35, Tryd.ntmps35
  go_wp2_with (go_at_call 37; refine (errNew _ _).mono ?_; rintro e w' ⟨rfl, hb⟩)
  go_ret
  exact ⟨rfl, hb⟩
set_option maxHeartbeats 400000 in
theorem idx31 (s : ByteArray) (r : Int) (w : World) (hr : idxFunc Plain.alphaN true s = r) :
    Calls Tryd.prog 31 #[.string s, .func (.func 30) #[] #[]] w fun e w' => e = .returned (.int .i64 r) ∧ Below w.heap.size w w' := by
  subst hr
  exact Tryd.strings_IndexFunc 30 #[] enters30 Plain.alphaN s w (pred30 w)
set_option maxHeartbeats 400000 in
theorem split_first (s : ByteArray) (w : World) (h : idxFunc Plain.alphaN true s ≠ 0) : Calls Tryd.prog 22 #[.string s] w (SpEnd ⟨#[]⟩ (-1) false w) := by
  obtain ⟨r, hr⟩ : ∃ r, idxFunc Plain.alphaN true s = r := ⟨_, rfl⟩
  rw [hr] at h
  have HR := Aside0.mk hr
  clear hr
  have h0 : (r == 0) = false := by simpa using h
  clear h
  go_enter Tryd.func22, Tryd.ntmps22
  go_wp2_with (fail)
  go_at_call 31; refine (idx31 s r _ HR.out).mono ?_; rintro e w1 ⟨rfl, hb1⟩
  go_wp2_with (go_at_call 35; refine (badCell _ _).mono ?_; rintro e w' ⟨rfl, hb⟩)
  go_ret3
  exact ⟨_, ⟨_, rfl⟩, rfl, below_step hb1 hb⟩
set_option maxHeartbeats 400000 in
theorem split_whole (s : ByteArray) (w : World) (hs : s.size ≤ 40) (hT : HTabs w) (h : idxFunc Plain.alphaN true s = 0) (hl : lastIdxFunc Plain.alphaN true s = (s.size : Int) - 1) :
    Calls Tryd.prog 22 #[.string s] w (SpEnd ⟨#[]⟩ (-1) false w) := by
  have HR := Aside0.mk h
  have HL := Aside0.mk hl
  clear h hl
  go_enter Tryd.func22, Tryd.ntmps22
  go_wp2_with (fail)
  go_at_call 31; refine (idx31 s 0 _ HR.out).mono ?_; rintro e w1 ⟨rfl, hb1⟩
  go_wp2_with (fail)
  go_at_call 32; refine (last32 s _ _ hs (hT.later hb1) HL.out).mono ?_; rintro e w2 ⟨rfl, hb2⟩
  go_wp2_with (go_at_call 35; refine (badCell _ _).mono ?_; rintro e w' ⟨rfl, hb⟩)
  all_goals
    go_ret3
    exact ⟨_, ⟨_, rfl⟩, rfl, below_step hb1 (below_step hb2 hb)⟩
set_option maxHeartbeats 1000000 in
theorem split_bad (s : ByteArray) (w : World) (hs : s.size ≤ 40) (hT : HTabs w) (h3 : HErr 3 w) (h4 : HErr 4 w) (D : Nat) (hC2 : D + 1 < s.size) (h : idxFunc Plain.alphaN true s = 0) (hl : lastIdxFunc Plain.alphaN true s = D)
    (k : Nat) (c : ByteArray) (hz : PFnCellText.excelize_zzReplaceAll.f k (s.extract 0 (D + 1)) ⟨#[36]⟩ ⟨#[]⟩ = some c) (hn : ∀ v, Lib.atoiAll (s.extract (D + 1) s.size).data.toList ≠ .ok v) :
    Calls Tryd.prog 22 #[.string s] w (SpEnd ⟨#[]⟩ (-1) false w) := by
  have HR := Aside0.mk h
  have HL := Aside0.mk hl
  have HZ := Aside0.mk hz
  have HN := Aside0.mk hn
  clear h hl hz hn
  go_enter Tryd.func22, Tryd.ntmps22
  go_wp2_with (fail)
  go_at_call 31; refine (idx31 s 0 _ HR.out).mono ?_; rintro e w1 ⟨rfl, hb1⟩
  go_wp2_with (fail)
  go_at_call 32; refine (last32 s _ _ hs (hT.later hb1) HL.out).mono ?_; rintro e w2 ⟨rfl, hb2⟩
  go_wp2_with (fail)
  have e1 : IntKind.i64.wrap ((D : Int) + 1) = (D : Int) + 1 := IntWalk.i64_in _ (by omega)
  have e2 : (0 : Int) ≤ (D : Int) + 1 := by omega
  have e3 : ((D : Int) + 1).toNat = D + 1 := by omega
  have e4 : (D : Int) + 1 ≤ s.size := by omega
  go_region_held3 (fun w' => Below w2.heap.size w2 w') (first | exact (Below.refl _ _).drew | exact below_step (by assumption) (by assumption) | assumption | exact Below.refl _ _)
    (first | (go_at_call 33; refine (PFnCellText.excelize_zzReplaceAll.calls k _ _ _ c _ HZ.out).mono ?_; rintro e w' ⟨rfl, hb⟩))
  have hb3 : Below w2.heap.size w2 w' := by assumption
  have hsz : (s.extract (D + 1) s.size).size ≤ 40 := by rw [ByteArray.size_extract]; omega
  clear e1 e2 e3 e4
  go_wp2_with (fail)
  go_at_call 34; refine (atoi_bad _ hsz HN.out _ (((h3.later hb1).later hb2).later hb3) (((h4.later hb1).later hb2).later hb3)).mono ?_; rintro e w4 ⟨n, N, rfl, hb4⟩
  go_wp2_with (go_at_call 35; refine (badCell _ _).mono ?_; rintro e w5 ⟨rfl, hb5⟩)
  go_ret3
  exact ⟨_, ⟨_, rfl⟩, rfl, below_step hb1 (below_step hb2 (below_step hb3 (below_step hb4 hb5)))⟩
set_option maxHeartbeats 1000000 in
theorem split_low (s : ByteArray) (w : World) (hs : s.size ≤ 40) (hT : HTabs w) (D : Nat) (hC2 : D + 1 < s.size) (h : idxFunc Plain.alphaN true s = 0) (hl : lastIdxFunc Plain.alphaN true s = D)
    (k : Nat) (c : ByteArray) (hz : PFnCellText.excelize_zzReplaceAll.f k (s.extract 0 (D + 1)) ⟨#[36]⟩ ⟨#[]⟩ = some c) (v : Int) (hv : v ≤ 0) (hn : Lib.atoiAll (s.extract (D + 1) s.size).data.toList = .ok v) :
    Calls Tryd.prog 22 #[.string s] w (SpEnd ⟨#[]⟩ (-1) false w) := by
  have HR := Aside0.mk h
  have HL := Aside0.mk hl
  have HZ := Aside0.mk hz
  have HN := Aside0.mk hn
  clear h hl hz hn
  go_enter Tryd.func22, Tryd.ntmps22
  go_wp2_with (fail)
  go_at_call 31; refine (idx31 s 0 _ HR.out).mono ?_; rintro e w1 ⟨rfl, hb1⟩
  go_wp2_with (fail)
  go_at_call 32; refine (last32 s _ _ hs (hT.later hb1) HL.out).mono ?_; rintro e w2 ⟨rfl, hb2⟩
  go_wp2_with (fail)
  have e1 : IntKind.i64.wrap ((D : Int) + 1) = (D : Int) + 1 := IntWalk.i64_in _ (by omega)
  have e2 : (0 : Int) ≤ (D : Int) + 1 := by omega
  have e3 : ((D : Int) + 1).toNat = D + 1 := by omega
  have e4 : (D : Int) + 1 ≤ s.size := by omega
  go_region_held3 (fun w' => Below w2.heap.size w2 w') (first | exact (Below.refl _ _).drew | exact below_step (by assumption) (by assumption) | assumption | exact Below.refl _ _)
    (first | (go_at_call 33; refine (PFnCellText.excelize_zzReplaceAll.calls k _ _ _ c _ HZ.out).mono ?_; rintro e w' ⟨rfl, hb⟩))
  have hb3 : Below w2.heap.size w2 w' := by assumption
  have hsz : (s.extract (D + 1) s.size).size ≤ 40 := by rw [ByteArray.size_extract]; omega
  clear e1 e2 e3 e4
  go_wp2_with (fail)
  go_at_call 34; refine (atoi_good _ hsz v HN.out _).mono ?_; rintro e w4 ⟨rfl, hb4⟩
  go_wp2_with (go_at_call 35; refine (badCell _ _).mono ?_; rintro e w5 ⟨rfl, hb5⟩)
  go_ret3
  exact ⟨_, ⟨_, rfl⟩, rfl, below_step hb1 (below_step hb2 (below_step hb3 (below_step hb4 hb5)))⟩
set_option maxHeartbeats 1000000 in
theorem split_good (s : ByteArray) (w : World) (hs : s.size ≤ 40) (hT : HTabs w) (D : Nat) (hC2 : D + 1 < s.size) (h : idxFunc Plain.alphaN true s = 0) (hl : lastIdxFunc Plain.alphaN true s = D)
    (k : Nat) (c : ByteArray) (hz : PFnCellText.excelize_zzReplaceAll.f k (s.extract 0 (D + 1)) ⟨#[36]⟩ ⟨#[]⟩ = some c) (v : Int) (hv : 1 ≤ v) (hn : Lib.atoiAll (s.extract (D + 1) s.size).data.toList = .ok v) :
    Calls Tryd.prog 22 #[.string s] w (SpEnd c v true w) := by
  have HR := Aside0.mk h
  have HL := Aside0.mk hl
  have HZ := Aside0.mk hz
  have HN := Aside0.mk hn
  clear h hl hz hn
  go_enter Tryd.func22, Tryd.ntmps22
  go_wp2_with (fail)
  go_at_call 31; refine (idx31 s 0 _ HR.out).mono ?_; rintro e w1 ⟨rfl, hb1⟩
  go_wp2_with (fail)
  go_at_call 32; refine (last32 s _ _ hs (hT.later hb1) HL.out).mono ?_; rintro e w2 ⟨rfl, hb2⟩
  go_wp2_with (fail)
  have e1 : IntKind.i64.wrap ((D : Int) + 1) = (D : Int) + 1 := IntWalk.i64_in _ (by omega)
  have e2 : (0 : Int) ≤ (D : Int) + 1 := by omega
  have e3 : ((D : Int) + 1).toNat = D + 1 := by omega
  have e4 : (D : Int) + 1 ≤ s.size := by omega
  go_region_held3 (fun w' => Below w2.heap.size w2 w') (first | exact (Below.refl _ _).drew | exact below_step (by assumption) (by assumption) | assumption | exact Below.refl _ _)
    (first | (go_at_call 33; refine (PFnCellText.excelize_zzReplaceAll.calls k _ _ _ c _ HZ.out).mono ?_; rintro e w' ⟨rfl, hb⟩))
  have hb3 : Below w2.heap.size w2 w' := by assumption
  have hsz : (s.extract (D + 1) s.size).size ≤ 40 := by rw [ByteArray.size_extract]; omega
  clear e1 e2 e3 e4
  go_wp2_with (fail)
  go_at_call 34; refine (atoi_good _ hsz v HN.out _).mono ?_; rintro e w4 ⟨rfl, hb4⟩
  go_wp2
  go_ret3
  exact ⟨_, rfl, rfl, below_step hb1 (below_step hb2 (below_step hb3 hb4))⟩
end Go.Proofs.YthegckcffmlanaaDoor
