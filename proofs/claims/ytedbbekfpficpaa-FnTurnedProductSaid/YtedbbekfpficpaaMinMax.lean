import Derived.Test.YtedbbekfpficpaaToL
set_option linter.unusedSimpArgs false
set_option linter.unusedVariables false
namespace Go.Proofs.Ytedbbekfpficpaa
open Go.RowKit Go.Proofs.YtedbbekfpficpaaW.PrintWords Go.Proofs.YtedbbekfpficpaaW.PrintLast Fl
theorem run_assert96 (v : Value) (w : World) : (Instr.typeAssert (.iface 96 v) 20 96 false).run Try.prog w = .ok v w := by
  simp [Instr.typeAssert, run_underlying Try.underlying96]
/-- The list of the one argument: a table with the range of its cells. -/
structure Arg1 (w : World) (g e : Nat) (A : Option Addr) (n c ga gb eb cols rows : Nat) : Prop where
  l : isL w g e e 1
  e : isE w e g g g (.iface 58 (argV A n c ga gb))
  a : isL w ga ga ga 0
  b : isL w gb eb eb 1
  f : isE w eb gb gb gb (.iface 96 (boxOf cols rows))
theorem Arg1.below {w w1 : World} {g e : Nat} {A : Option Addr} {n c ga gb eb cols rows : Nat} (h : Arg1 w g e A n c ga gb eb cols rows) (hb : Below w.heap.size w w1) : Arg1 w1 g e A n c ga gb eb cols rows :=
  ⟨blk_below h.l hb, blk_below h.e hb, blk_below h.a hb, blk_below h.b hb, blk_below h.f hb⟩
theorem Arg1.ke {w : World} {g e : Nat} {A : Option Addr} {n c ga gb eb cols rows : Nat} (h : Arg1 w g e A n c ga gb eb cols rows) : w.cell? ⟨e, 3, none⟩ = some (.iface 58 (.agg #[.string ⟨#[]⟩, fl 0, .string ⟨#[]⟩, .slice none 0 0, .slice A n c, .bool false, .string ⟨#[]⟩, .int .u8 4, .pointer (some ⟨ga, 0, none⟩), .pointer (some ⟨gb, 0, none⟩)])) := blk_cell h.e 3
theorem Arg1.kf {w : World} {g e : Nat} {A : Option Addr} {n c ga gb eb cols rows : Nat} (h : Arg1 w g e A n c ga gb eb cols rows) : w.cell? ⟨eb, 3, none⟩ = some (.iface 96 (.agg #[.int .i64 1, .int .i64 1, .string ⟨#[83, 104, 101, 101, 116, 49]⟩, .int .i64 cols, .int .i64 rows, .string ⟨#[83, 104, 101, 101, 116, 49]⟩])) := blk_cell h.f 3
theorem field58_9 (v0 v1 v2 v3 v4 v5 v6 v7 v8 v9 : Value) (w : World) : (Instr.field 58 (.agg #[v0, v1, v2, v3, v4, v5, v6, v7, v8, v9]) 9).run Try.prog w = .ok v9 w := by kernel_rfl
theorem field58_8 (v0 v1 v2 v3 v4 v5 v6 v7 v8 v9 : Value) (w : World) : (Instr.field 58 (.agg #[v0, v1, v2, v3, v4, v5, v6, v7, v8, v9]) 8).run Try.prog w = .ok v8 w := by kernel_rfl
theorem field96_0 (v0 v1 v2 v3 v4 v5 : Value) (w : World) : (Instr.field 96 (.agg #[v0, v1, v2, v3, v4, v5]) 0).run Try.prog w = .ok (.agg #[v0, v1, v2]) w := by kernel_rfl
theorem field96_1 (v0 v1 v2 v3 v4 v5 : Value) (w : World) : (Instr.field 96 (.agg #[v0, v1, v2, v3, v4, v5]) 1).run Try.prog w = .ok (.agg #[v3, v4, v5]) w := by kernel_rfl
theorem getV1 (b : Bool) (s : Value) (hs : ∃ t, s = .string t) (w : World) : Calls Try.prog 47 #[.bool b, .agg #[.int .i64 1, .int .i64 1, s]] w fun e w' => e = .returned (.int .i64 1) ∧ Below w.heap.size w w' := by
  have h := getVal b 1 1 s hs w
  simpa using h
theorem getVN (b : Bool) (x y N : Int) (hN : (if b = true then x else y) = N) (s : Value) (hs : ∃ t, s = .string t) (w : World) : Calls Try.prog 47 #[.bool b, .agg #[.int .i64 x, .int .i64 y, s]] w fun e w' => e = .returned (.int .i64 N) ∧ Below w.heap.size w w' := by
  have h := getVal b x y s hs w
  rw [hN] at h
  exact h
theorem sheet : ∃ t, Value.string ⟨#[83, 104, 101, 101, 116, 49]⟩ = .string t := ⟨_, rfl⟩
theorem one_ne : (1 : Int) ≠ 0 := by decide
attribute [local go_sem] run_store_float run_assert58 run_assert96 field58_9 field58_8 field96_0 field96_1
set_option maxHeartbeats 2000000 in
set_option maxRecDepth 100000 in
theorem minMax (bb : Bool) (g e : Nat) (A : Option Addr) (n c ga gb eb cols rows : Nat) (N : Int) (hN : (if bb = true then (cols : Int) else (rows : Int)) = N) (h0 : 0 < N) (w : World) (h : Arg1 w g e A n c ga gb eb cols rows) :
    Calls Try.prog 39 #[.bool bb, .pointer (some ⟨g, 0, none⟩)] w fun r w' => r = .returned (.tuple #[.int .i64 1, .int .i64 N]) ∧ Below w.heap.size w w' := by
  have HF := Aside0.mk h
  have HB := Aside0.mk (Below.refl w.heap.size w)
  have ke := h.ke
  have z0 : decide (0 < N) = true := decide_eq_true h0
  clear h
  go_enter Try.func39, Try.ntmps39
  go_wp2_with (first
      | (go_at_call 29; with_reducible refine (lFront g e e 1 one_ne _ HF.out.l).mono ?_; rintro r w' ⟨rfl, hw⟩; replace hw := hw.symm; subst hw)
          | (go_at_call 29; with_reducible refine (lFront gb eb eb 1 one_ne _ HF.out.b).mono ?_; rintro r w' ⟨rfl, hw⟩; replace hw := hw.symm; subst hw)
          | (go_at_call 27; with_reducible refine (lLen gb eb eb 1 _ HF.out.b).mono ?_; rintro r w' ⟨rfl, hw⟩; replace hw := hw.symm; subst hw)
          | (go_at_call 27; with_reducible refine (lLen ga ga ga 0 _ HF.out.a).mono ?_; rintro r w' ⟨rfl, hw⟩; replace hw := hw.symm; subst hw))
  go_loopg [4, 5, 8] 1 (fun kq v4 v5 v8 w' => ((kq = 1 ∧ v4 = .int .i64 0 ∧ v5 = .int .i64 0 ∧ v8 = .pointer (some ⟨eb, 0, none⟩)) ∨ (kq = 0 ∧ v4 = .int .i64 1 ∧ v5 = .int .i64 N ∧ v8 = .pointer none)) ∧ Aside0 (Arg1 w' g e A n c ga gb eb cols rows) ∧ Aside0 (Below w.heap.size w w'))
  case atStart => exact ⟨.inl ⟨rfl, rfl, rfl, rfl⟩, HF, HB⟩
  case round =>
    clear HF HB ke
    obtain ⟨hd, HF, HB⟩ := hrel
    rcases hd with ⟨hk, rfl, rfl, rfl⟩ | ⟨hk, rfl, rfl, rfl⟩
    · replace hk := Aside0.mk hk
      have kf := HF.out.kf
      have hN' := Aside0.mk hN
      clear hN
      go_wp2_with (first
        | (go_at_call 47; with_reducible refine (getV1 bb _ sheet _).mono ?_; rintro r w1 ⟨rfl, hb1⟩; replace HF := Aside0.mk (HF.out.below hb1); replace HB := Aside0.mk (below_step HB.out hb1); have kf := HF.out.kf)
        | (go_at_call 47; with_reducible refine (getVN bb cols rows N hN'.out _ sheet _).mono ?_; rintro r w1 ⟨rfl, hb1⟩; replace HF := Aside0.mk (HF.out.below hb1); replace HB := Aside0.mk (below_step HB.out hb1); have kf := HF.out.kf)
        | (go_at_call 48; with_reducible refine (lNext1 gb eb _ _ HF.out.b HF.out.f).mono ?_; rintro r w' ⟨rfl, hw⟩; replace hw := hw.symm; subst hw))
      go_roundg 0
      case measure => have := hk.out; omega
      case rel => exact ⟨.inr ⟨rfl, rfl, rfl, rfl⟩, HF, HB⟩
    · have ke := HF.out.ke
      go_wp2_with (first
          | (go_at_call 29; with_reducible refine (lFront g e e 1 one_ne _ HF.out.l).mono ?_; rintro r w' ⟨rfl, hw⟩; replace hw := hw.symm; subst hw)
          | (go_at_call 29; with_reducible refine (lFront gb eb eb 1 one_ne _ HF.out.b).mono ?_; rintro r w' ⟨rfl, hw⟩; replace hw := hw.symm; subst hw)
          | (go_at_call 27; with_reducible refine (lLen gb eb eb 1 _ HF.out.b).mono ?_; rintro r w' ⟨rfl, hw⟩; replace hw := hw.symm; subst hw)
          | (go_at_call 27; with_reducible refine (lLen ga ga ga 0 _ HF.out.a).mono ?_; rintro r w' ⟨rfl, hw⟩; replace hw := hw.symm; subst hw))
      go_ret2
      exact ⟨rfl, HB.out⟩
end Go.Proofs.Ytedbbekfpficpaa
