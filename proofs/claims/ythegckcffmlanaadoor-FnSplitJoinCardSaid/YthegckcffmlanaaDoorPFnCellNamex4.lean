-- PRINTED BY print.sh 35421559b90ae4d0a3588c463048766b98c2df88dd9212a6774a882060cdf62d: not written by this session
import Derived.Test.YthegckcffmlanaaDoorPFnCellNamex0
namespace Go.Proofs.YthegckcffmlanaaDoor.PFnCellName
open Go.RowKit Go.Proofs.YthegckcffmlanaaDoorW.PrintWords Go.Proofs.YthegckcffmlanaaDoorW.PrintLast Go.Proofs.YthegckcffmlanaaDoorW.PrintMore
attribute [local go_sem] max2_int min2_int max_two min_two max_three min_three max_four min_four   -- for this text's walks alone
set_option linter.unusedVariables false
set_option linter.unusedSimpArgs false

/-! ### excelize_zzColumnName: function 45 -/
mutual
def excelize_zzColumnName.l0 : Nat → Int → Int → Int → Option (ByteArray)
  | 0, _, _, _ => none
  | k + 1, x0, x3, x4 => if x4 > 0 then (excelize_zzColumnName.l0 k x0 (wrap64 (x3 + 1)) (wrap64 (Int.tdiv (wrap64 (x4 - 1)) 26))) else (if 0 ≤ x3 then (if (x3 : Int).toNat ≤ 281474976710656 then (excelize_zzColumnName.l1 k x0 x3 (List.replicate (x3 : Int).toNat 0)) else (none)) else (none))
def excelize_zzColumnName.l1 : Nat → Int → Int → List Int → Option (ByteArray)
  | 0, _, _, _ => none
  | k + 1, x0, x3, x5 => if x0 > 0 then (if 0 ≤ (wrap64 (x3 - 1)) then (if (wrap64 (x3 - 1)) < (x5.length : Int) then (excelize_zzColumnName.l1 k (wrap64 (Int.tdiv (wrap64 (x0 - 1)) 26)) (wrap64 (x3 - 1)) (x5.set ((wrap64 (x3 - 1)) : Int).toNat ((wrap64 ((Int.tmod (wrap64 (x0 - 1)) 26) + 65)) % 256))) else (none)) else (none)) else (some (strOfNums x5))
end
def excelize_zzColumnName.f (k : Nat) (a0 : Int) : Option (ByteArray) := excelize_zzColumnName.l0 k a0 0 a0
theorem excelize_zzColumnName.mono_l : ∀ k, (∀ y0 y1 y2, LeO (excelize_zzColumnName.l0 k y0 y1 y2) (excelize_zzColumnName.l0 (k + 1) y0 y1 y2)) ∧ (∀ y0 y1 y2, LeO (excelize_zzColumnName.l1 k y0 y1 y2) (excelize_zzColumnName.l1 (k + 1) y0 y1 y2))
  | 0 => ⟨fun _ _ _ r h => by simp [excelize_zzColumnName.l0] at h, fun _ _ _ r h => by simp [excelize_zzColumnName.l1] at h⟩
  | k + 1 => by
    obtain ⟨ih0, ih1⟩ := excelize_zzColumnName.mono_l k
    refine ⟨?_, ?_⟩
    · intro y0 y1 y2
      unfold excelize_zzColumnName.l0
      repeat' first
      | (with_reducible exact ih0 _ _ _)
      | (with_reducible exact ih1 _ _ _)
      | (with_reducible exact LeO.refl _)
      | (with_reducible exact LeO.none _)
      | (with_reducible refine LeO.ite ?_ ?_)
      | (with_reducible refine LeO.bind ?_ (fun _ => ?_))
      | exact ih0 _ _ _
      | exact ih1 _ _ _
      | exact LeO.none _
      | refine LeO.ite ?_ ?_
      | refine LeO.bind ?_ (fun _ => ?_)
    · intro y0 y1 y2
      unfold excelize_zzColumnName.l1
      repeat' first
      | (with_reducible exact ih0 _ _ _)
      | (with_reducible exact ih1 _ _ _)
      | (with_reducible exact LeO.refl _)
      | (with_reducible exact LeO.none _)
      | (with_reducible refine LeO.ite ?_ ?_)
      | (with_reducible refine LeO.bind ?_ (fun _ => ?_))
      | exact ih0 _ _ _
      | exact ih1 _ _ _
      | exact LeO.none _
      | refine LeO.ite ?_ ?_
      | refine LeO.bind ?_ (fun _ => ?_)
theorem excelize_zzColumnName.mono : ∀ a0 k, LeO (excelize_zzColumnName.f k a0) (excelize_zzColumnName.f (k + 1) a0) := by
  intro a0 k
  obtain ⟨ih0, ih1⟩ := excelize_zzColumnName.mono_l k
  unfold excelize_zzColumnName.f
  repeat' first
      | (with_reducible exact ih0 _ _ _)
      | (with_reducible exact ih1 _ _ _)
      | (with_reducible exact LeO.refl _)
      | (with_reducible exact LeO.none _)
      | (with_reducible refine LeO.ite ?_ ?_)
      | (with_reducible refine LeO.bind ?_ (fun _ => ?_))
      | exact ih0 _ _ _
      | exact ih1 _ _ _
      | exact LeO.none _
      | refine LeO.ite ?_ ?_
      | refine LeO.bind ?_ (fun _ => ?_)
set_option maxHeartbeats 8000000 in
set_option maxRecDepth 100000 in
theorem excelize_zzColumnName.calls (k : Nat) (a0 : Int) (r : ByteArray) (w : World) (h : excelize_zzColumnName.f k a0 = some r) :
    Calls Tryd.prog 45 #[.int .i64 a0] w fun e w' => e = .returned (.string r) ∧ Below w.heap.size w w' := by
  have HB := Aside0.mk (Below.refl w.heap.size w)
  have H : (excelize_zzColumnName.l0 k a0 0 a0) = some r := h
  clear h
  have H' := Aside0.mk H
  clear H
  go_enter Tryd.func45, Tryd.ntmps45
  go_wp2
  go_loopg [3, 4] k (fun kq v3 v4 w' => ∃ (x3_1 : Int) (x4_1 : Int), v3 = .int .i64 x3_1 ∧ v4 = .int .i64 x4_1 ∧ Aside0 (excelize_zzColumnName.l0 kq a0 x3_1 x4_1 = some r) ∧ Aside0 (kq ≤ k) ∧ Aside0 (Below w.heap.size w w'))
  case atStart => exact ⟨(0), (a0), (by first | rfl | (simp; done) | (simp [*]; done)), (by first | rfl | (simp; done) | (simp [*]; done)), H', ⟨Nat.le_refl _⟩, ⟨by repeat (first | (with_reducible first | exact HB.out | apply below_alloc | apply pw_below_drewN | apply below_drew1) | exact HB.out)⟩⟩
  case round =>
    clear H'
    obtain ⟨x3_1, x4_1, rfl, rfl, HA, HK1, HB⟩ := hrel
    cases gk with
    | zero => exact absurd HA.out (by simp [excelize_zzColumnName.l0])
    | succ k1 =>
      have H := HA.out
      clear HA
      simp only [excelize_zzColumnName.l0] at H
      by_cases c2 : x4_1 > 0
      · rw [if_pos c2] at H
        have c2b0 : decide (0 < x4_1) = true := decide_eq_true c2
        clear c2
        have H' := Aside0.mk H
        clear H
        go_wp2
        go_roundg k1
        case measure => have := HK1.out; omega
        case rel => exact ⟨(wrap64 (x3_1 + 1)), (wrap64 (Int.tdiv (wrap64 (x4_1 - 1)) 26)), (by first | rfl | (simp; done) | (simp [*]; done)), (by first | rfl | (simp; done) | (simp [*]; done)), H', ⟨by have := HK1.out; omega⟩, ⟨by repeat (first | (with_reducible first | exact HB.out | apply below_alloc | apply pw_below_drewN | apply below_drew1) | exact HB.out)⟩⟩
      · rw [if_neg c2] at H
        have c2b0 : decide (0 < x4_1) = false := decide_eq_false c2
        clear c2
        by_cases c3 : 0 ≤ x3_1
        · rw [if_pos c3] at H
          have c3b0 := eq_true c3
          have c3b1 : decide (0 ≤ x3_1) = true := decide_eq_true c3
          clear c3
          by_cases c4 : (x3_1 : Int).toNat ≤ 281474976710656
          · rw [if_pos c4] at H
            have c4b0 := eq_true c4
            have c4b1 : decide ((x3_1 : Int).toNat ≤ 281474976710656) = true := decide_eq_true c4
            clear c4
            obtain ⟨y154, hy154⟩ : ∃ y_ : List Int, y_ = (List.replicate (x3_1 : Int).toNat 0) := ⟨_, rfl⟩
            replace H : (excelize_zzColumnName.l1 k1 a0 x3_1 y154) = some r := by first | (rw [hy154]; with_reducible exact H) | (have H2_ := (Option.bind_some _ _).symm.trans H; rw [hy154]; with_reducible exact H2_) | (have H2_ := (Option.bind_some _ _).symm.trans H; with_reducible exact H2_) | with_reducible exact H | (rw [hy154]; exact H) | exact H
            have Ny154 := Aside0.mk hy154
            clear hy154
            have H' := Aside0.mk H
            clear H
            go_wp2_with (first | ((with_reducible refine gate_dst (N := 15) rfl ?_); refine Kd.R_make (Kd.int .u8) _ 5 rfl (N := 15) rfl 45 _ _ rfl x3_1 rfl rfl Tryd.underlying45 (.int .u8 0) 1 info5 rfl (by decide) (by omega) 0 (ok := fun _ => True) (okp := fun _ => True) rfl (fun _ hk => hk) trivial (of_decide_eq_true (by first | (with_reducible assumption) | assumption)) (Nat.le_trans (Nat.mul_le_mul_right _ (of_decide_eq_true (by first | (with_reducible assumption) | assumption) : x3_1.toNat ≤ 281474976710656)) (by omega)) (Below.refl _ _) (Nat.le_refl _) ?_; intro v155 w5 ho6 hb hg_ hnew_; clear hg_ hnew_; (first | rw [← Ny154.out] at ho6 | (simp only [Int.reduceToNat] at ho6; rw [← Ny154.out] at ho6)); have n0_ := Aside0.mk (Kd.R_lower ho6 (below_size (by repeat (first | (with_reducible first | exact HB.out | apply below_alloc | apply pw_below_drewN | apply below_drew1) | exact HB.out)))); have n1_ := Aside0.mk (below_step (by repeat (first | (with_reducible first | exact HB.out | apply below_alloc | apply pw_below_drewN | apply below_drew1) | exact HB.out)) hb); clear HB; have HO156 := n0_; have HB := n1_; clear n0_ n1_; clear hb ho6))
            go_loopg [0, 3] k1 (fun kq v0 v3 w' => ∃ (x0_2 : Int) (x3_2 : Int) (x5_2 : List Int), v0 = .int .i64 x0_2 ∧ v3 = .int .i64 x3_2 ∧ Aside0 (excelize_zzColumnName.l1 kq x0_2 x3_2 x5_2 = some r) ∧ Aside0 (kq ≤ k1) ∧ Aside0 (Kd.R (Kd.int .u8) 5 w' w.heap.size (fun _ => True) v155 x5_2) ∧ Aside0 (Below w.heap.size w w'))
            case atStart => exact ⟨(a0), (x3_1), (y154), (by first | rfl | (simp; done) | (simp [*]; done)), (by first | rfl | (simp; done) | (simp [*]; done)), H', ⟨Nat.le_refl _⟩, ⟨by (with_reducible repeat (first | apply Kd.R_alloc | apply Kd.R_drewN | apply Kd.R_drew)); exact HO156.out⟩, ⟨by repeat (first | (with_reducible first | exact HB.out | apply below_alloc | apply pw_below_drewN | apply below_drew1) | exact HB.out)⟩⟩
            case round =>
              clear H'
              try clear c2
              try clear c2b0
              try clear p2
              try clear c3
              try clear c3b0
              try clear c3b1
              try clear c4
              try clear c4b0
              try clear c4b1
              try clear p6
              obtain ⟨x0_2, x3_2, x5_2, rfl, rfl, HA, HK2, HO_5, HB⟩ := hrel
              cases gk with
              | zero => exact absurd HA.out (by simp [excelize_zzColumnName.l1])
              | succ k2 =>
                have H := HA.out
                clear HA
                simp only [excelize_zzColumnName.l1] at H
                by_cases c7 : x0_2 > 0
                · rw [if_pos c7] at H
                  have c7b0 : decide (0 < x0_2) = true := decide_eq_true c7
                  clear c7
                  obtain ⟨ji8, hji8⟩ : ∃ j_ : Int, (wrap64 (x3_2 - 1)) = j_ := ⟨_, rfl⟩
                  replace H : (if 0 ≤ (ji8) then (if (ji8) < (x5_2.length : Int) then (excelize_zzColumnName.l1 k2 (wrap64 (Int.tdiv (wrap64 (x0_2 - 1)) 26)) ji8 (x5_2.set ((ji8) : Int).toNat ((wrap64 ((Int.tmod (wrap64 (x0_2 - 1)) 26) + 65)) % 256))) else (none)) else (none)) = some r := by first | (rw [hji8] at H; exact H) | (simp only [hji8] at H ⊢; exact H)
                  have hji8w : (IntKind.i64.wrap (x3_2 - 1)) = ji8 := (i64_w _).trans hji8
                  by_cases c9 : 0 ≤ (ji8)
                  · rw [if_pos c9] at H
                    have c9b0 : decide (0 ≤ (ji8)) = true := decide_eq_true c9
                    clear c9
                    by_cases c10 : (ji8) < (x5_2.length : Int)
                    · rw [if_pos c10] at H
                      have c10b0 : decide ((ji8) < (x5_2.length : Int)) = true := decide_eq_true c10
                      clear c10
                      obtain ⟨y157, hy157⟩ : ∃ y_ : List Int, y_ = (x5_2.set ((ji8) : Int).toNat ((wrap64 ((Int.tmod (wrap64 (x0_2 - 1)) 26) + 65)) % 256)) := ⟨_, rfl⟩
                      replace H : (excelize_zzColumnName.l1 k2 (wrap64 (Int.tdiv (wrap64 (x0_2 - 1)) 26)) ji8 y157) = some r := by first | (rw [hy157]; with_reducible exact H) | (have H2_ := (Option.bind_some _ _).symm.trans H; rw [hy157]; with_reducible exact H2_) | (have H2_ := (Option.bind_some _ _).symm.trans H; with_reducible exact H2_) | with_reducible exact H | (rw [hy157]; exact H) | exact H
                      have Ny157 := Aside0.mk hy157
                      clear hy157
                      have H' := Aside0.mk H
                      clear H
                      have p11 : 0 ≤ ((ji8) : Int) := of_decide_eq_true (by first | (with_reducible assumption) | assumption)
                      have q11 : ((ji8) : Int) < ((x5_2.length : Int) : Int) := of_decide_eq_true (by first | (with_reducible assumption) | assumption)
                      obtain ⟨go11, co11, eo11, gb11, gl11, cl11, HG11⟩ := Kd.R_form HO_5.out (by omega)
                      (first | cases eo11 | (injection eo11 with ea_ en_ ec_; (first | subst ea_ | (injection ea_ with ea_; subst ea_)); subst ec_; clear en_))
                      have GB11 := Aside0.mk gb11
                      have GG11 := Aside0.mk HG11
                      clear gb11 gl11 HG11
                      obtain ⟨hx11_0, hf11_0⟩ := Kd.R_celln 0 HO_5.out ((ji8) : Int) p11 q11
                      replace p11 := eq_true p11
                      replace q11 := eq_true q11
                      have HP12 := Kd.R_putg HO_5.out ((ji8) : Int) ((wrap64 ((Int.tmod (wrap64 (x0_2 - 1)) 26) + 65)) % 256)
                      go_wp2_with (first | ((with_reducible refine gate_store (t := 5) (p := 27) rfl ?_); refine store_event (t := 5) (p := 27) (v := ?vo_w13) (w1 := (wr.setCell ⟨go11, ((ji8) : Int).toNat, none⟩ (.int .u8 ((wrap64 ((Int.tmod (wrap64 (x0_2 - 1)) 26) + 65)) % 256)))) ?hg ?ho ?hn ?hr ?_; (case ho => rfl); (case hg => rfl); (case hn => rfl); (case hr => first | (go_simp; done) | (go_simp; rfl)); intro w13 hw; have hg : wr.grownBy w13 (some go11) := (by rw [hw]; exact HP12.2); have hp_ : Kd.R (Kd.int .u8) 5 w13 w.heap.size (fun _ => True) (.slice (some ⟨go11, 0, none⟩) x5_2.length co11) y157 := (by rw [hw, Ny157.out]; exact HP12.1); clear HP12; have n0_ := Aside0.mk (hp_); have n1_ := Aside0.mk ((by rw [hw]; exact below_set (HB.out) GB11.out : Below w.heap.size w w13)); clear HO_5; clear HB; have HO_5 := n0_; have HB := n1_; clear n0_ n1_; clear hg hw hp_))
                      go_roundg k2
                      case measure => have := HK1.out; have := HK2.out; omega
                      case rel => exact ⟨(wrap64 (Int.tdiv (wrap64 (x0_2 - 1)) 26)), (ji8), (y157), (by first | rfl | (simp; done) | (simp [*]; done)), (by first | rfl | (simp; done) | (simp only [← hji8] <;> (first | rfl | simp)) | (simp [*]; done)), H', ⟨by have := HK1.out; have := HK2.out; omega⟩, ⟨by (with_reducible repeat (first | apply Kd.R_alloc | apply Kd.R_drewN | apply Kd.R_drew)); exact HO_5.out⟩, ⟨by repeat (first | (with_reducible first | exact HB.out | apply below_alloc | apply pw_below_drewN | apply below_drew1) | exact HB.out)⟩⟩
                    · rw [if_neg c10] at H
                      exact absurd H (by simp)
                  · rw [if_neg c9] at H
                    exact absurd H (by simp)
                · rw [if_neg c7] at H
                  have c7b0 : decide (0 < x0_2) = false := decide_eq_false c7
                  clear c7
                  obtain rfl := Option.some.inj H
                  have hcv14 := own_string (P := Tryd.prog) Tryd.underlying45 Tryd.underlying5 Tryd.underlying9 (Kd.own_of_R HO_5.out)
                  go_wp2
                  go_ret
                  exact ⟨by first | rfl | (simp [errW_none, errW_some] <;> rfl) | (simp [*, errW_none, errW_some] <;> rfl), by repeat (first | (with_reducible first | exact HB.out | apply below_alloc | apply pw_below_drewN | apply below_drew1) | exact HB.out)⟩
          · rw [if_neg c4] at H
            exact absurd H (by simp)
        · rw [if_neg c3] at H
          exact absurd H (by simp)

-- NOT PRINTED: function 29 (excelize_ColumnNumberToName)

-- NOT PRINTED: function 20 (excelize_CoordinatesToCellName)

-- NOT PRINTED: function 14 (impl_CoordinatesToCellName)

/-! ### spec_Lower: function 21 -/
def spec_Lower.f (a0 : Int) : Option (Int) := if a0 ≥ 65 then (if a0 ≤ 90 then (some ((a0 + 32) % 256)) else (some a0)) else (some a0)
set_option maxHeartbeats 8000000 in
set_option maxRecDepth 100000 in
theorem spec_Lower.calls (a0 : Int) (r : Int) (w : World) (h : spec_Lower.f a0 = some r) :
    Calls Tryd.prog 21 #[.int .u8 a0] w fun e w' => e = .returned (.int .u8 r) ∧ Drawn0 w w' := by
  have H : (if a0 ≥ 65 then (if a0 ≤ 90 then (some ((a0 + 32) % 256)) else (some a0)) else (some a0)) = some r := h
  clear h
  by_cases c2 : a0 ≥ 65
  · rw [if_pos c2] at H
    have c2b0 : decide (65 ≤ a0) = true := decide_eq_true c2
    clear c2
    by_cases c3 : a0 ≤ 90
    · rw [if_pos c3] at H
      have c3b0 : decide (a0 ≤ 90) = true := decide_eq_true c3
      clear c3
      obtain rfl := Option.some.inj H
      go_enter Tryd.func21, Tryd.ntmps21
      go_wp2
      go_ret
      exact ⟨by first | rfl | (simp; done) | (simp [*]; done), by repeat (first | exact Drawn0.refl _ | apply Drawn0.step)⟩
    · rw [if_neg c3] at H
      have c3b0 : decide (a0 ≤ 90) = false := decide_eq_false c3
      clear c3
      obtain rfl := Option.some.inj H
      go_enter Tryd.func21, Tryd.ntmps21
      go_wp2
      go_ret
      exact ⟨by first | rfl | (simp; done) | (simp [*]; done), by repeat (first | exact Drawn0.refl _ | apply Drawn0.step)⟩
  · rw [if_neg c2] at H
    have c2b0 : decide (65 ≤ a0) = false := decide_eq_false c2
    clear c2
    obtain rfl := Option.some.inj H
    go_enter Tryd.func21, Tryd.ntmps21
    go_wp2
    go_ret
    exact ⟨by first | rfl | (simp; done) | (simp [*]; done), by repeat (first | exact Drawn0.refl _ | apply Drawn0.step)⟩

/-! ### laws_lowered: function 15 -/
def laws_lowered.l0 : Nat → ByteArray → List Int → Int → Option (ByteArray)
  | 0, _, _, _ => none
  | k + 1, x0, x3, x4 => if x4 < (x0.size : Int) then (if 0 ≤ x4 then ((spec_Lower.f (bt x0 x4)).bind fun t161 => (if x3.length < 140737488355328 then (laws_lowered.l0 k x0 (x3 ++ [t161]) (wrap64 (x4 + 1))) else (none))) else (none)) else (some (strOfNums x3))
def laws_lowered.f (k : Nat) (a0 : ByteArray) : Option (ByteArray) := laws_lowered.l0 k a0 ([] : List Int) 0
theorem laws_lowered.mono_l : ∀ k, (∀ y0 y1 y2, LeO (laws_lowered.l0 k y0 y1 y2) (laws_lowered.l0 (k + 1) y0 y1 y2))
  | 0 => fun _ _ _ r h => by simp [laws_lowered.l0] at h
  | k + 1 => by
    have ih0 := laws_lowered.mono_l k
    · intro y0 y1 y2
      unfold laws_lowered.l0
      repeat' first
      | (with_reducible exact ih0 _ _ _)
      | (with_reducible exact LeO.refl _)
      | (with_reducible exact LeO.none _)
      | (with_reducible refine LeO.ite ?_ ?_)
      | (with_reducible refine LeO.bind ?_ (fun _ => ?_))
      | exact ih0 _ _ _
      | exact LeO.none _
      | refine LeO.ite ?_ ?_
      | refine LeO.bind ?_ (fun _ => ?_)
theorem laws_lowered.mono : ∀ a0 k, LeO (laws_lowered.f k a0) (laws_lowered.f (k + 1) a0) := by
  intro a0 k
  have ih0 := laws_lowered.mono_l k
  unfold laws_lowered.f
  repeat' first
      | (with_reducible exact ih0 _ _ _)
      | (with_reducible exact LeO.refl _)
      | (with_reducible exact LeO.none _)
      | (with_reducible refine LeO.ite ?_ ?_)
      | (with_reducible refine LeO.bind ?_ (fun _ => ?_))
      | exact ih0 _ _ _
      | exact LeO.none _
      | refine LeO.ite ?_ ?_
      | refine LeO.bind ?_ (fun _ => ?_)
set_option maxHeartbeats 8000000 in
set_option maxRecDepth 100000 in
theorem laws_lowered.calls (k : Nat) (a0 : ByteArray) (r : ByteArray) (w : World) (h : laws_lowered.f k a0 = some r) :
    Calls Tryd.prog 15 #[.string a0] w fun e w' => e = .returned (.string r) ∧ Below w.heap.size w w' := by
  have HB := Aside0.mk (Below.refl w.heap.size w)
  have H : (laws_lowered.l0 k a0 ([] : List Int) 0) = some r := h
  clear h
  have H' := Aside0.mk H
  clear H
  go_enter Tryd.func15, Tryd.ntmps15
  go_wp2
  go_loopg [3, 4] k (fun kq v3 v4 w' => ∃ (x3_1 : List Int) (x4_1 : Int), v4 = .int .i64 x4_1 ∧ Aside0 (laws_lowered.l0 kq a0 x3_1 x4_1 = some r) ∧ Aside0 (kq ≤ k) ∧ Aside0 (Kd.R (Kd.int .u8) 5 w' w.heap.size (fun _ => True) v3 x3_1) ∧ Aside0 (Below w.heap.size w w'))
  case atStart => exact ⟨(([] : List Int)), (0), (by first | rfl | (simp; done) | (simp [*]; done)), H', ⟨Nat.le_refl _⟩, ⟨by first | exact Kd.R_nil _ _ _ _ _ | exact Kd.N_nil _ _ _ _ _ | exact Kd.V_nil _ _ _ _ _ | exact Kd.Q_nil _ _ _ _ _ | exact Kd.S_nil _ _ _ _ _⟩, ⟨by repeat (first | (with_reducible first | exact HB.out | apply below_alloc | apply pw_below_drewN | apply below_drew1) | exact HB.out)⟩⟩
  case round =>
    clear H'
    try clear c1
    obtain ⟨x3_1, x4_1, rfl, HA, HK1, HO_3, HB⟩ := hrel
    cases gk with
    | zero => exact absurd HA.out (by simp [laws_lowered.l0])
    | succ k1 =>
      have H := HA.out
      clear HA
      simp only [laws_lowered.l0] at H
      by_cases c2 : x4_1 < (a0.size : Int)
      · rw [if_pos c2] at H
        have c2b0 : decide (x4_1 < (a0.size : Int)) = true := decide_eq_true c2
        clear c2
        by_cases c3 : 0 ≤ x4_1
        · rw [if_pos c3] at H
          have c3b0 : decide (0 ≤ x4_1) = true := decide_eq_true c3
          clear c3
          replace H := Option.bind_eq_some_iff.mp H
          obtain ⟨t161, A50, H⟩ := H
          replace H : (if x3_1.length < 140737488355328 then (laws_lowered.l0 k1 a0 (x3_1 ++ [t161]) (wrap64 (x4_1 + 1))) else (none)) = some r := H
          have A5 := Aside0.mk A50
          clear A50
          by_cases c6 : x3_1.length < 140737488355328
          · rw [if_pos c6] at H
            have LMc6 := Aside0.mk c6
            clear c6
            obtain ⟨y162, hy162⟩ : ∃ y_ : List Int, y_ = (x3_1 ++ [t161]) := ⟨_, rfl⟩
            replace H : (laws_lowered.l0 k1 a0 y162 (wrap64 (x4_1 + 1))) = some r := by first | (rw [hy162]; with_reducible exact H) | (have H2_ := (Option.bind_some _ _).symm.trans H; rw [hy162]; with_reducible exact H2_) | (have H2_ := (Option.bind_some _ _).symm.trans H; with_reducible exact H2_) | with_reducible exact H | (rw [hy162]; exact H) | exact H
            have Ny162 := Aside0.mk hy162
            clear hy162
            have H' := Aside0.mk H
            clear H
            have p4 : 0 ≤ (x4_1 : Int) := of_decide_eq_true (by first | (with_reducible assumption) | assumption)
            have q4 : x4_1 < (a0.size : Int) := of_decide_eq_true (by first | (with_reducible assumption) | assumption)
            have hx4 := bt_at a0 x4_1
            replace p4 := eq_true p4
            replace q4 := eq_true q4
            go_wp2_with (first | ((with_reducible refine gate_callee (f := 21) rfl ?_); refine goesL_ (some 15) rfl rfl Tryd.func21 (by kernel_rfl) rfl #[.int .u8 (bt a0 x4_1)] rfl (by (try simp only [List.map_toArray, List.map_cons, List.map_nil]); first | done | rfl | (simp only [List.length_drop, List.length_take]; rfl)) ?_; (with_reducible refine (spec_Lower.calls (bt a0 x4_1) t161 _ A5.out).mono ?_); rintro e w' ⟨rfl, ⟨nd, rfl⟩⟩; refine ⟨_, rfl, ?_⟩) | ((with_reducible refine gate_builtin (b := .append) (xs := #[.tmp 11, .tmp 16]) rfl ?_); at_builtin; refine Kd.R_append (Kd.int .u8) (w0 := w) w.heap.size rfl (.tmp 11) (.tmp 16) 45 5 (.int .u8 0) 1 rfl Tryd.underlying45 info5 rfl (by decide) (by omega) u3 x3_1 t161 [.int .u8 t161] (fun _ => True) (fun _ => False) rfl rfl ?aP (fun _ hk => hk.elim) ?aF ?aO ?aB ?aS ?aL ?_; (case aP => exact rfl); (case aB => exact (by repeat (first | (with_reducible first | exact HB.out | apply below_alloc | apply pw_below_drewN | apply below_drew1) | exact HB.out))); (case aF => exact (fun _ _ => trivial)); (case aO => exact (by (with_reducible repeat (first | apply Kd.R_alloc | apply Kd.R_drewN | apply Kd.R_drew)); exact HO_3.out)); (case aS => exact (below_size (by repeat (first | (with_reducible first | exact HB.out | apply below_alloc | apply pw_below_drewN | apply below_drew1) | exact HB.out)))); (case aL => have := LMc6.out; omega); intro v163 w7 ho hb hg hat; rw [← Ny162.out] at ho; have n0_ := Aside0.mk (hb); have n1_ := Aside0.mk (ho); clear HB; clear HO_3; have HB := n0_; have HO164 := n1_; clear n0_ n1_; clear ho hb hg hat))
            go_roundg k1
            case measure => have := HK1.out; omega
            case rel => exact ⟨(y162), (wrap64 (x4_1 + 1)), (by first | rfl | (simp; done) | (simp [*]; done)), H', ⟨by have := HK1.out; omega⟩, ⟨by (with_reducible repeat (first | apply Kd.R_alloc | apply Kd.R_drewN | apply Kd.R_drew)); exact HO164.out⟩, ⟨by repeat (first | (with_reducible first | exact HB.out | apply below_alloc | apply pw_below_drewN | apply below_drew1) | exact HB.out)⟩⟩
          · rw [if_neg c6] at H
            exact absurd H (by simp)
        · rw [if_neg c3] at H
          exact absurd H (by simp)
      · rw [if_neg c2] at H
        have c2b0 : decide (x4_1 < (a0.size : Int)) = false := decide_eq_false c2
        clear c2
        obtain rfl := Option.some.inj H
        have hcv8 := own_string (P := Tryd.prog) Tryd.underlying45 Tryd.underlying5 Tryd.underlying9 (Kd.own_of_R HO_3.out)
        go_wp2
        go_ret
        exact ⟨by first | rfl | (simp [errW_none, errW_some] <;> rfl) | (simp [*, errW_none, errW_some] <;> rfl), by repeat (first | (with_reducible first | exact HB.out | apply below_alloc | apply pw_below_drewN | apply below_drew1) | exact HB.out)⟩

-- NOT PRINTED: function 5 (laws_FnCellName)

end Go.Proofs.YthegckcffmlanaaDoor.PFnCellName
