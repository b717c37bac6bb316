import Derived.Test.YthegckcffmlanaaDoorJoinPlain
import Derived.Test.YthegckcffmlanaaDoorCode
namespace Go.Proofs.YthegckcffmlanaaDoor
open Go.RowKit Go.Sort Go.Lib Go.Proofs.YthegckcffmlanaaDoorW.PrintWords
/-- A cell's place. -/
def InSheet (col row : Int) : Prop := 1 ≤ col ∧ col ≤ 16384 ∧ 1 ≤ row ∧ row ≤ 1048576
def dollarS : ByteArray := ⟨#[36]⟩
def nameS (x d : ByteArray) (b : Bool) : ByteArray := if b then dollarS ++ x ++ dollarS ++ d else x ++ d
set_option maxHeartbeats 400000 in
theorem cell13_out (col row : Int) (b : Bool) (w : World) (h : ¬ InSheet col row) :
    Calls Tryd.prog 13 #[.int .i64 col, .int .i64 row, .bool b] w fun e w' => e = .returned (.tuple #[.string ⟨#[]⟩, .bool false]) ∧ Below w.heap.size w w' := by
  by_cases hc : 1 ≤ col ∧ col ≤ 16384
  · obtain ⟨k, hk⟩ := Plain.specName col hc.1 hc.2
    have HK := Aside0.mk hk
    clear hk
    by_cases hr : row < 1
    · clear h hc
      go_enter Tryd.func13, Tryd.ntmps13
      go_wp2_with (go_at_call 9; refine (Spec.spec_ColumnName.calls k col _ true _ HK.out).mono ?_; rintro e w1 ⟨rfl, hb⟩)
      go_ret2
      exact ⟨rfl, hb⟩
    · have hr2 : 1048576 < row := by unfold InSheet at h; omega
      clear h hc
      go_enter Tryd.func13, Tryd.ntmps13
      go_wp2_with (go_at_call 9; refine (Spec.spec_ColumnName.calls k col _ true _ HK.out).mono ?_; rintro e w1 ⟨rfl, hb⟩)
      go_ret2
      exact ⟨rfl, hb⟩
  · have HK := Aside0.mk (Plain.specName_out col (by omega))
    clear h hc
    go_enter Tryd.func13, Tryd.ntmps13
    go_wp2_with (go_at_call 9; refine (Spec.spec_ColumnName.calls 1 col _ false _ HK.out).mono ?_; rintro e w1 ⟨rfl, hb⟩)
    go_ret2
    exact ⟨rfl, hb⟩
set_option maxHeartbeats 400000 in
theorem cell13_in (col row : Int) (b : Bool) (w : World) (h : InSheet col row) (x d : ByteArray) (k k2 : Nat) (hx : Spec.spec_ColumnName.f k col = some (x, true)) (hd : Spec.spec_Digits.f k2 row 10 = some d) (sx : x.size ≤ 1000000) (sd : d.size ≤ 2000000) :
    Calls Tryd.prog 13 #[.int .i64 col, .int .i64 row, .bool b] w fun e w' => e = .returned (.tuple #[.string (nameS x d b), .bool true]) ∧ Below w.heap.size w w' := by
  obtain ⟨h1, h2, h3, h4⟩ := h
  have HX := Aside0.mk hx
  have HD := Aside0.mk hd
  clear hx hd
  have l1 : x.size + d.size ≤ 9223372036854775807 := by omega
  cases b with
  | true =>
    go_enter Tryd.func13, Tryd.ntmps13
    go_wp2_with (fail)
    go_at_call 9; refine (Spec.spec_ColumnName.calls k col x true _ HX.out).mono ?_; rintro e w1 ⟨rfl, hb⟩
    go_wp2_with (fail)
    go_at_call 10; refine (Spec.spec_Digits.calls k2 row 10 d _ HD.out).mono ?_; rintro e w2 ⟨rfl, ⟨nd, rfl⟩⟩
    go_wp2
    go_ret2
    exact ⟨rfl, below_step hb (pw_below_drewN (Below.refl _ _) _)⟩
  | false =>
    go_enter Tryd.func13, Tryd.ntmps13
    go_wp2_with (fail)
    go_at_call 9; refine (Spec.spec_ColumnName.calls k col x true _ HX.out).mono ?_; rintro e w1 ⟨rfl, hb⟩
    go_wp2_with (fail)
    go_at_call 10; refine (Spec.spec_Digits.calls k2 row 10 d _ HD.out).mono ?_; rintro e w2 ⟨rfl, ⟨nd, rfl⟩⟩
    go_wp2
    go_ret2
    exact ⟨rfl, below_step hb (pw_below_drewN (Below.refl _ _) _)⟩
set_option maxHeartbeats 400000 in
theorem badPlace (c r : Int) (w : World) :
    Calls Tryd.prog 28 #[.int .i64 c, .int .i64 r] w fun e w' => e = .returned (.iface 75 (.pointer (some ⟨w.heap.size, 0, none⟩))) ∧ Below w.heap.size w w' := by
  go_enter Tryd.func28, Tryd.ntmps28
  go_wp2_with (go_at_call 37; refine (errNew _ _).mono ?_; rintro e w' ⟨rfl, hb⟩)
  go_ret
  exact ⟨rfl, hb⟩
def CcEnd (x : ByteArray) (b : Bool) (w : World) (e : Ending) (w' : World) : Prop := ∃ v, ErrB b v ∧ e = .returned (.tuple #[.string x, v]) ∧ Below w.heap.size w w'
set_option maxHeartbeats 400000 in
theorem cc20_out (col row : Int) (a : Addr) (w : World) (h0 : HErr 0 w) (h1 : HErr 1 w) (h : ¬ InSheet col row) :
    Calls Tryd.prog 20 #[.int .i64 col, .int .i64 row, .slice (some a) 1 1] w (CcEnd ⟨#[]⟩ false w) := by
  obtain ⟨a0, c0⟩ := h0
  obtain ⟨a1, c1⟩ := h1
  by_cases hc : col < 1
  · clear h
    go_enter Tryd.func20, Tryd.ntmps20
    go_wp2_with (go_at_call 28; refine (badPlace _ _ _).mono ?_; rintro e w' ⟨rfl, hb⟩)
    go_ret2
    exact ⟨_, ⟨_, rfl⟩, rfl, hb⟩
  · by_cases hr : row < 1
    · clear h
      go_enter Tryd.func20, Tryd.ntmps20
      go_wp2_with (go_at_call 28; refine (badPlace _ _ _).mono ?_; rintro e w' ⟨rfl, hb⟩)
      go_ret2
      exact ⟨_, ⟨_, rfl⟩, rfl, hb⟩
    · by_cases hr2 : 1048576 < row
      · clear h
        go_enter Tryd.func20, Tryd.ntmps20
        go_wp2
        go_quiet (fail)
        go_wp2
        go_ret2
        exact ⟨_, ⟨_, rfl⟩, rfl, pw_below_drewN (Below.refl _ _) _⟩
      · have HC := Aside0.mk (Plain.cn_out col (by unfold InSheet at h; omega))
        clear h
        go_enter Tryd.func20, Tryd.ntmps20
        go_wp2_with (go_at_call 29; refine (cn12 col _ false _ a1 c1 HC.out).mono ?_; rintro e w1 ⟨v, hv, rfl, hb⟩; obtain ⟨av, rfl⟩ : ∃ a, v = .iface 75 (.pointer (some a)) := hv)
        go_ret2
        exact ⟨_, ⟨_, rfl⟩, rfl, hb⟩
set_option maxHeartbeats 400000 in
theorem cc20_in (col row : Int) (b : Bool) (g : Nat) (w : World) (h1 : HErr 1 w) (hp : HPow w) (h : InSheet col row) (hcell : w.cell? ⟨g, 0, none⟩ = some (.bool b)) (x : ByteArray) (hx : CnR col x true) (sx : x.size ≤ 1000000) (sd : (Lib.itoa row).length ≤ 2000000) :
    Calls Tryd.prog 20 #[.int .i64 col, .int .i64 row, .slice (some ⟨g, 0, none⟩) 1 1] w (CcEnd (nameS x ⟨(Lib.itoa row).toArray⟩ b) true w) := by
  obtain ⟨a1, c1⟩ := h1
  obtain ⟨g1, g2, g3, g4⟩ := h
  have HX := Aside0.mk hx
  have HC := Aside0.mk hcell
  have HP := Aside0.mk hp
  clear hx hcell hp
  have l1 : x.size + (Lib.itoa row).length ≤ 9223372036854775807 := by omega
  have l2 : 1 + x.size ≤ 9223372036854775807 := by omega
  have l3 : 1 + x.size + 1 ≤ 9223372036854775807 := by omega
  have l4 : 1 + x.size + 1 + (Lib.itoa row).length ≤ 9223372036854775807 := by omega
  go_enter Tryd.func20, Tryd.ntmps20
  go_wp2_with (fail)
  go_at_call 29; refine (cn12 col x true _ a1 c1 HX.out).mono ?_; rintro e w1 ⟨v, hv, rfl, hb⟩; obtain rfl : v = .nilIface := hv
  have c2 := kept hb HC.out
  go_wp2_with (fail)
  go_loop [34] (fun i => i = .int .i64 0 ∨ (b = false ∧ i = .int .i64 1)) (fun i => 2 - (intOf i).toNat)
  case atStart => exact Or.inl rfl
  case round =>
    rcases hrel with rfl | ⟨rfl, rfl⟩
    · cases b with
      | true =>
        go_wp2_with (go_at_call 26; refine (Tryd.strconv_Itoa row (by omega) (by omega) _ (HP.out.later hb)).mono ?_; rintro e w3 ⟨rfl, nk, os, rfl⟩)
        go_ret2
        exact ⟨_, rfl, rfl, below_step hb (below_grow _ _ _)⟩
      | false =>
        go_wp2
        go_round
        case rel => exact Or.inr ⟨trivial, rfl⟩
        case measure => simp [intOf]
    · go_wp2_with (go_at_call 26; refine (Tryd.strconv_Itoa row (by omega) (by omega) _ (HP.out.later hb)).mono ?_; rintro e w3 ⟨rfl, nk, os, rfl⟩)
      go_ret2
      exact ⟨_, rfl, rfl, below_step hb (below_grow _ _ _)⟩
/-- What CoordinatesToCellName answers. -/
def CcR (col row : Int) (b : Bool) (y : ByteArray) (ok : Bool) : Prop :=
  (¬ InSheet col row ∧ y = ⟨#[]⟩ ∧ ok = false) ∨ (InSheet col row ∧ (∃ x, CnR col x true ∧ x.size ≤ 1000000 ∧ (Lib.itoa row).length ≤ 2000000 ∧ y = nameS x ⟨(Lib.itoa row).toArray⟩ b) ∧ ok = true)
theorem cc20 (col row : Int) (b : Bool) (y : ByteArray) (ok : Bool) (g : Nat) (w : World) (h0 : HErr 0 w) (h1 : HErr 1 w) (hp : HPow w) (hcell : w.cell? ⟨g, 0, none⟩ = some (.bool b)) (h : CcR col row b y ok) :
    Calls Tryd.prog 20 #[.int .i64 col, .int .i64 row, .slice (some ⟨g, 0, none⟩) 1 1] w (CcEnd y ok w) := by
  rcases h with ⟨h, rfl, rfl⟩ | ⟨h, ⟨x, hx, sx, sd, rfl⟩, rfl⟩
  · exact cc20_out col row _ w h0 h1 h
  · exact cc20_in col row b g w h1 hp h hcell x hx sx sd
set_option maxHeartbeats 400000 in
theorem im14 (col row : Int) (b : Bool) (y : ByteArray) (ok : Bool) (w : World) (h0 : HErr 0 w) (h1 : HErr 1 w) (hp : HPow w) (h : CcR col row b y ok) :
    Calls Tryd.prog 14 #[.int .i64 col, .int .i64 row, .bool b] w fun e w' => e = .returned (.tuple #[.string y, .bool ok]) ∧ Below w.heap.size w w' := by
  have HA := Aside0.mk h
  have HP := Aside0.mk hp
  have HB : ∀ o, Below w.heap.size w (w.alloc o) := fun o => (Below.refl _ _).alloc (Nat.le_refl _) o
  have HD := Aside0.mk HB
  clear h hp HB
  go_enter Tryd.func14, Tryd.ntmps14
  cases ok with
  | true =>
    go_wp2_with (fail)
    go_at_call 20; refine (cc20 col row b y true _ _ (h0.later (HD.out _)) (h1.later (HD.out _)) (HP.out.later (HD.out _)) (by go_simp) HA.out).mono ?_; rintro e w1 ⟨x, hx, rfl, hb⟩; obtain rfl : x = .nilIface := hx
    go_wp2_with (fail)
    go_quiet (fail)
    go_wp2
    go_ret2
    exact ⟨rfl, pw_below_drewN (below_step (HD.out _) hb) _⟩
  | false =>
    go_wp2_with (fail)
    go_at_call 20; refine (cc20 col row b y false _ _ (h0.later (HD.out _)) (h1.later (HD.out _)) (HP.out.later (HD.out _)) (by go_simp) HA.out).mono ?_; rintro e w1 ⟨x, hx, rfl, hb⟩; obtain ⟨av, rfl⟩ : ∃ a, x = .iface 75 (.pointer (some a)) := hx
    go_wp2_with (fail)
    go_quiet (fail)
    go_wp2
    go_ret2
    exact ⟨rfl, pw_below_drewN (below_step (HD.out _) hb) _⟩
end Go.Proofs.YthegckcffmlanaaDoor
