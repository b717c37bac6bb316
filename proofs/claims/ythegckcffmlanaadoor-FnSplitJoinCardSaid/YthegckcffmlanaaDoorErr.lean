import Derived.Test.YthegckcffmlanaaDoorRows
import Derived.WalkKit
import Derived.WalkSpells
import Derived.WalkLawsBesides
import Derived.Test.YthegckcffmlanaaDoorPFnCellNamex4
namespace Go.Proofs.YthegckcffmlanaaDoor
open Go.RowKit Go.Proofs.YthegckcffmlanaaDoorW.PrintWords Go.Proofs.YthegckcffmlanaaDoorW.PrintLast Go.Proofs.YthegckcffmlanaaDoorW.PrintMore
set_option maxHeartbeats 400000 in
theorem errNew (s : ByteArray) (w : World) :
    Calls Tryd.prog 37 #[.string s] w fun e w' => e = .returned (.iface 75 (.pointer (some ⟨w.heap.size, 0, none⟩))) ∧ Below w.heap.size w w' := by
  go_enter Tryd.func37, Tryd.ntmps37
  go_wp2
  go_ret
  exact ⟨rfl, (Below.refl _ _).alloc (Nat.le_refl _) _⟩
set_option maxHeartbeats 400000 in
theorem badName (s : ByteArray) (w : World) :
    Calls Tryd.prog 36 #[.string s] w fun e w' => e = .returned (.iface 75 (.pointer (some ⟨w.heap.size, 0, none⟩))) ∧ Below w.heap.size w w' := by
  go_enter Tryd.func36, Tryd.ntmps36
  go_wp2_with (go_at_call 37; refine (errNew _ _).mono ?_; rintro e w' ⟨rfl, hb⟩)
  go_ret
  exact ⟨rfl, hb⟩

/-- What ColumnNameToNumber's loop answers: the number, and whether there is no error. -/
def nm : Nat → ByteArray → Int → Int → Int → Option (Int × Bool)
  | 0, _, _, _, _ => none
  | k + 1, s, c, m, i => if 0 ≤ i then
      (if 65 ≤ bt s i ∧ bt s i ≤ 90 then
        (if 16384 < wrap64 (c + wrap64 ((bt s i - 65 + 1) * m)) then some (-1, false) else nm k s (wrap64 (c + wrap64 ((bt s i - 65 + 1) * m))) (wrap64 (m * 26)) (i - 1))
       else if 97 ≤ bt s i ∧ bt s i ≤ 122 then
        (if 16384 < wrap64 (c + wrap64 ((bt s i - 97 + 1) * m)) then some (-1, false) else nm k s (wrap64 (c + wrap64 ((bt s i - 97 + 1) * m))) (wrap64 (m * 26)) (i - 1))
       else some (-1, false))
    else some (c, true)
/-- An error's value: nil where the Bool is true. -/
def ErrB (b : Bool) (v : Value) : Prop := if b then v = .nilIface else ∃ a, v = .iface 75 (.pointer (some a))
def NmEnd (r : Int) (b : Bool) (w : World) (e : Ending) (w' : World) : Prop := ∃ v, ErrB b v ∧ e = .returned (.tuple #[.int .i64 r, v]) ∧ Below w.heap.size w w'
set_option maxHeartbeats 1000000 in
theorem nmLoop (k : Nat) (s : ByteArray) (r : Int) (b : Bool) (w : World) (hs : s.size ≤ 9223372036854775807) (h1 : 1 ≤ s.size)
    (a : Addr) (hc : w.cell? ⟨1, 0, none⟩ = some (.iface 75 (.pointer (some a)))) (h : nm k s 0 1 (s.size - 1) = some (r, b)) :
    Calls Tryd.prog 23 #[.string s] w (NmEnd r b w) := by
  have H' := Aside0.mk h
  clear h
  have hs0 : ((s.size : Int) == 0) = false := by have h2 : ((s.size : Int) ≠ 0) := by omega
                                                 simpa using h2
  go_enter Tryd.func23, Tryd.ntmps23
  go_wp2_with (fail)
  go_loopg [4, 5, 6] k (fun kq v4 v5 v6 w' => ∃ (c m i : Int), v4 = .int .i64 c ∧ v5 = .int .i64 m ∧ v6 = .int .i64 i ∧ -1 ≤ i ∧ i < s.size ∧ Aside0 (nm kq s c m i = some (r, b)) ∧ w' = w)
  case atStart => exact ⟨0, 1, s.size - 1, rfl, rfl, rfl, by omega, by omega, H', rfl⟩
  case round =>
    clear H'
    obtain ⟨c, m, i, rfl, rfl, rfl, hi0, hi1, HA, rfl⟩ := hrel
    cases gk with
    | zero => exact absurd HA.out (by simp [nm])
    | succ k1 =>
      have H := HA.out
      clear HA
      simp only [nm] at H
      by_cases c2 : 0 ≤ i
      · rw [if_pos c2] at H
        have hx4 := bt_at s i
        by_cases c3 : 65 ≤ bt s i ∧ bt s i ≤ 90
        · rw [if_pos c3] at H
          obtain ⟨c3a, c3b⟩ := c3
          by_cases c5 : 16384 < wrap64 (c + wrap64 ((bt s i - 65 + 1) * m))
          · rw [if_pos c5] at H
            simp only [Option.some.injEq, Prod.mk.injEq] at H
            obtain ⟨rfl, rfl⟩ := H
            have c5' : decide (16384 < wrap64 (c + wrap64 ((bt s i - 65 + 1) * m))) = true := by simpa using c5
            clear c5
            go_wp2
            go_quiet (fail)
            go_wp2
            go_ret2
            exact ⟨_, ⟨_, rfl⟩, rfl, pw_below_drewN (Below.refl _ _) _⟩
          · rw [if_neg c5] at H
            have H' := Aside0.mk H
            clear H
            have c5' : decide (16384 < wrap64 (c + wrap64 ((bt s i - 65 + 1) * m))) = false := by simpa using c5
            clear c5
            go_wp2
            go_roundg k1
            case measure => omega
            case rel => exact ⟨_, _, _, rfl, rfl, rfl, by omega, by omega, H', rfl⟩
        · rw [if_neg c3] at H
          by_cases c4 : 97 ≤ bt s i ∧ bt s i ≤ 122
          · rw [if_pos c4] at H
            clear c3
            obtain ⟨c4a, c4b⟩ := c4
            by_cases c5 : 16384 < wrap64 (c + wrap64 ((bt s i - 97 + 1) * m))
            · rw [if_pos c5] at H
              simp only [Option.some.injEq, Prod.mk.injEq] at H
              obtain ⟨rfl, rfl⟩ := H
              have c5' : decide (16384 < wrap64 (c + wrap64 ((bt s i - 97 + 1) * m))) = true := by simpa using c5
              clear c5
              go_wp2
              go_quiet (fail)
              go_wp2
              go_ret2
              exact ⟨_, ⟨_, rfl⟩, rfl, pw_below_drewN (Below.refl _ _) _⟩
            · rw [if_neg c5] at H
              have H' := Aside0.mk H
              clear H
              have c5' : decide (16384 < wrap64 (c + wrap64 ((bt s i - 97 + 1) * m))) = false := by simpa using c5
              clear c5
              go_wp2
              go_roundg k1
              case measure => omega
              case rel => exact ⟨_, _, _, rfl, rfl, rfl, by omega, by omega, H', rfl⟩
          · rw [if_neg c4] at H
            simp only [Option.some.injEq, Prod.mk.injEq] at H
            obtain ⟨rfl, rfl⟩ := H
            by_cases d1 : 65 ≤ bt s i
            · by_cases d2 : 97 ≤ bt s i
              · have d3 : ¬ bt s i ≤ 90 := by omega
                have d4 : ¬ bt s i ≤ 122 := by omega
                clear c3 c4
                go_wp2_with (go_at_call 36; refine (badName _ _).mono ?_; rintro e w' ⟨rfl, hb⟩)
                go_ret2
                exact ⟨_, ⟨_, rfl⟩, rfl, hb⟩
              · have d3 : ¬ bt s i ≤ 90 := by omega
                clear c3 c4
                go_wp2_with (go_at_call 36; refine (badName _ _).mono ?_; rintro e w' ⟨rfl, hb⟩)
                go_ret2
                exact ⟨_, ⟨_, rfl⟩, rfl, hb⟩
            · have d2 : ¬ 97 ≤ bt s i := by omega
              clear c3 c4
              go_wp2_with (go_at_call 36; refine (badName _ _).mono ?_; rintro e w' ⟨rfl, hb⟩)
              go_ret2
              exact ⟨_, ⟨_, rfl⟩, rfl, hb⟩
      · rw [if_neg c2] at H
        simp only [Option.some.injEq, Prod.mk.injEq] at H
        obtain ⟨rfl, rfl⟩ := H
        go_wp2
        go_ret2
        exact ⟨_, rfl, rfl, Below.refl _ _⟩
def NmR (s : ByteArray) (r : Int) (b : Bool) : Prop := (s.size = 0 ∧ r = -1 ∧ b = false) ∨ (1 ≤ s.size ∧ ∃ k, nm k s 0 1 (s.size - 1) = some (r, b))
set_option maxHeartbeats 400000 in
theorem nmAny (s : ByteArray) (r : Int) (b : Bool) (w : World) (hs : s.size ≤ 9223372036854775807)
    (a : Addr) (hc : w.cell? ⟨1, 0, none⟩ = some (.iface 75 (.pointer (some a)))) (h : NmR s r b) :
    Calls Tryd.prog 23 #[.string s] w (NmEnd r b w) := by
  rcases h with ⟨h0, rfl, rfl⟩ | ⟨h1, k, hk⟩
  · have hs0 : ((s.size : Int) == 0) = true := by simp [h0]
    clear h0 hc
    go_enter Tryd.func23, Tryd.ntmps23
    go_wp2_with (go_at_call 36; refine (badName _ _).mono ?_; rintro e w' ⟨rfl, hb⟩)
    go_ret2
    exact ⟨_, ⟨_, rfl⟩, rfl, hb⟩
  · exact nmLoop k s r b w hs h1 a hc hk
/-- What the two ways to a column's name answer. -/
def CnEnd (x : ByteArray) (b : Bool) (w : World) (e : Ending) (w' : World) : Prop := ∃ v, ErrB b v ∧ e = .returned (.tuple #[.string x, v]) ∧ Below w.heap.size w w'
def CnR (n : Int) (x : ByteArray) (b : Bool) : Prop := ((n < 1 ∨ 16384 < n) ∧ x = ⟨#[]⟩ ∧ b = false) ∨ (1 ≤ n ∧ n ≤ 16384 ∧ b = true ∧ ∃ k, PFnCellName.excelize_zzColumnName.f k n = some x)
set_option maxHeartbeats 400000 in
theorem cn12 (n : Int) (x : ByteArray) (b : Bool) (w : World)
    (a : Addr) (hc : w.cell? ⟨1, 0, none⟩ = some (.iface 75 (.pointer (some a)))) (h : CnR n x b) :
    Calls Tryd.prog 29 #[.int .i64 n] w (CnEnd x b w) := by
  rcases h with ⟨h0, rfl, rfl⟩ | ⟨h1, h2, rfl, k, hk⟩
  · by_cases h1 : n < 1
    · clear h0
      go_enter Tryd.func29, Tryd.ntmps29
      go_wp2
      go_quiet (fail)
      go_wp2
      go_ret2
      exact ⟨_, ⟨_, rfl⟩, rfl, pw_below_drewN (Below.refl _ _) _⟩
    · have h2 : 16384 < n := by omega
      clear h0
      go_enter Tryd.func29, Tryd.ntmps29
      go_wp2
      go_quiet (fail)
      go_wp2
      go_ret2
      exact ⟨_, ⟨_, rfl⟩, rfl, pw_below_drewN (Below.refl _ _) _⟩
  · have HA := Aside0.mk hk
    clear hk hc
    go_enter Tryd.func29, Tryd.ntmps29
    go_wp2_with (go_at_call 45; refine (PFnCellName.excelize_zzColumnName.calls k n x _ HA.out).mono ?_; rintro e w' ⟨rfl, hb⟩)
    go_ret2
    exact ⟨_, rfl, rfl, hb⟩
end Go.Proofs.YthegckcffmlanaaDoor
