import Derived.Test.YtedbbekfpficpaaCall
import Derived.Lib.Builder
set_option linter.unusedSimpArgs false
set_option linter.unusedVariables false
namespace Go.Proofs.Ytedbbekfpficpaa
open Go.RowKit Go.Proofs.YtedbbekfpficpaaW.PrintWords Go.Proofs.YtedbbekfpficpaaW.PrintLast Fl
theorem flat_len {m : List (List Int)} {r c : Nat} (h : Sized m r c) (i : Nat) (hi : i ≤ r) : (m.take i).flatten.length = i * c := by
  induction i with
  | zero => simp
  | succ i ih =>
    have hlt : i < m.length := by have := h.1; omega
    rw [take_one m i hlt, List.flatten_append, List.length_append, ih (by omega)]
    simp [h.2 _ (List.getElem_mem hlt), Nat.succ_mul]
theorem info72 : (Try.prog.info? 72).isSome = true := by kernel_rfl
attribute [local go_sem] run_store_float
set_option maxHeartbeats 1000000 in
set_option maxRecDepth 100000 in
theorem toList_ (m : List (List Int)) (r c : Nat) (hs : Sized m r c) (hr : r ≤ 100) (hc : c ≤ 100) (A : Option Addr) (c0 : Nat) (q1 q2 : Option Addr) (w : World) (hC : (Kd.slice 58 dN).C w A m.length m) :
    Calls Try.prog 38 #[.agg #[.string ⟨#[]⟩, fl 0, .string ⟨#[]⟩, .slice none 0 0, .slice A m.length c0, .bool false, .string ⟨#[]⟩, .int .u8 4, .pointer q1, .pointer q2]] w (MadeRow dN 58 m.flatten w) := by
  have HC := Aside0.mk hC
  have HS := Aside0.mk hs
  have hl1 : (m.length : Int) ≤ 100 := by have := hs.1; omega
  have hr' := Aside0.mk hr
  have hc' := Aside0.mk hc
  clear hC hs hr hc
  go_enter Try.func38, Try.ntmps38
  go_wp2
  go_loopg [3, 13] m.length (fun kq v3 v13 w' => ∃ (i : Nat), v13 = .int .i64 i ∧ Aside0 (i + kq = m.length) ∧ Aside0 (dN.R 58 w' (w.heap.size + 1) (fun _ => True) v3 (m.take i).flatten) ∧ Aside0 (w.heap.size + 1 ≤ w'.heap.size) ∧ Aside0 (Below w.heap.size w w'))
  case atStart =>
    refine ⟨0, rfl, ⟨by omega⟩, ⟨by simpa using Kd.R_nil _ _ _ _ _⟩, ⟨by simp⟩, ⟨?_⟩⟩
    · repeat (first | exact Below.refl _ _ | refine Below.alloc ?_ (by simp <;> omega) _)
  case round =>
    obtain ⟨i, rfl, HK, HO, HZ, HB⟩ := hrel
    by_cases hi : i < m.length
    · have c0 : decide ((i : Int) < (m.length : Int)) = true := decide_eq_true (by omega)
      have b1 : (0 : Int) ≤ (i : Int) := by omega
      have b2 : (i : Int) < (m.length : Int) := by omega
      obtain ⟨ad, cs, rfl, hcl, ⟨A1, c1, rfl, hl', hKr⟩, hce⟩ := Kd.C_get HC.out [] (i : Int) b1 b2
      obtain ⟨row, hrow⟩ : ∃ row, Aside0 (m[i]? = some row) := ⟨_, ⟨List.getElem?_eq_getElem hi⟩⟩
      have hgd : m.getD (i : Int).toNat [] = row := by simp [List.getD_eq_getElem?_getD, hrow.out]
      rw [hgd] at hKr hce
      have kr : wr.cell? (ad.add i) = some (.slice A1 row.length c1) := pw_cell_below HB.out (by simpa [Kd.slice] using hce 0 _ rfl)
      have hl2 := Aside0.mk (show row.length = c from HS.out.2 row (List.mem_of_getElem? hrow.out))
      have hl3 : (row.length : Int) ≤ 100 := by have := hl2.out; have := hc'.out; omega
      have hKr := Aside0.mk (Kd.C_below hKr HB.out)
      clear hcl hce hgd hl'
      go_wp2_with (first
        | ((with_reducible refine gate_builtin (b := .append) (xs := #[.tmp 17, .tmp 18]) rfl ?_); at_builtin
           go_loud (refine Kd.R_append_rows dN (Rr := dN.K wr) (w0 := wr) (w.heap.size + 1) rfl (.tmp 17) (.tmp 18) 53 58 _ 136 rfl Try.underlying53 info58 rfl (by decide) (by decide) u3 (m.take i).flatten row A1 row.length c1 (fun _ => True) (fun _ => False) rfl rfl HO.out hKr.out (fun _ _ h => h) (fun _ h => h.elim) (fun _ _ => trivial) (Below.refl _ _) HZ.out ?aL ?_)
           (case aL =>
             have h0 := HS.out.1
             have h1 := flat_len HS.out i (by omega)
             have h2 : i * c ≤ 100 * 100 := Nat.mul_le_mul (by have := hr'.out; omega) hc'.out
             have := hc'.out
             rw [h1, hl2.out]; omega)
           intro v1 w2 ho hb hg hat
           have ho := Aside0.mk ho; have hb2 := Aside0.mk (HB.out.trans (hb.mono (by omega))); have hz := Aside0.mk (Nat.le_trans HZ.out hb.size); clear hb hg hat))
      go_roundg (gk - 1)
      case measure => have := HK.out; omega
      case rel =>
        obtain ⟨hi'', hi3⟩ := List.getElem?_eq_some_iff.1 hrow.out
        exact ⟨i + 1, by simp, ⟨by have := HK.out; omega⟩, ⟨by have := ho.out; rw [take_one m i hi, List.flatten_append, hi3]; simpa using this⟩, hz, hb2⟩
    · have c0 : decide ((i : Int) < (m.length : Int)) = false := decide_eq_false (by omega)
      have h1 : m.take i = m := List.take_of_length_le (by omega)
      rw [h1] at HO
      go_wp2
      go_ret
      exact ⟨_, rfl, Kd.R_lower HO.out (by omega), HB.out⟩
set_option maxHeartbeats 1000000 in
set_option maxRecDepth 100000 in
theorem getVal (b : Bool) (x y : Int) (s : Value) (hs : ∃ t, s = .string t) (w : World) :
    Calls Try.prog 47 #[.bool b, .agg #[.int .i64 x, .int .i64 y, s]] w fun e w' => e = .returned (.int .i64 (if b then x else y)) ∧ Below w.heap.size w w' := by
  obtain ⟨t, rfl⟩ := hs
  cases b
  · go_enter Try.func47, Try.ntmps47
    go_wp2
    go_ret
    exact ⟨rfl, (Below.refl _ _).alloc (Nat.le_refl _) _⟩
  · go_enter Try.func47, Try.ntmps47
    go_wp2
    go_ret
    exact ⟨rfl, (Below.refl _ _).alloc (Nat.le_refl _) _⟩
set_option maxHeartbeats 1000000 in
set_option maxRecDepth 100000 in
/-- The element behind the only one: none. -/
theorem lNext1 (g e : Nat) (v : Value) (w : World) (hg : isL w g e e 1) (he : isE w e g g g v) :
    Calls Try.prog 48 #[.pointer (some ⟨e, 0, none⟩)] w fun r w' => r = .returned (.pointer none) ∧ w' = w := by
  have j0 : w.cell? ⟨e, 0, none⟩ = some (pt g) := blk_cell he 0
  have j2 : w.cell? ⟨e, 2, none⟩ = some (pt g) := blk_cell he 2
  unfold pt at j0 j2
  obtain ⟨j, hj, _⟩ : ∃ j, Try.prog.info? 72 = some j ∧ True := by
    cases h : Try.prog.info? 72 with
    | none => exact absurd info72 (by rw [h]; simp)
    | some j => exact ⟨j, rfl, trivial⟩
  have hn := fun w => Go.Lib.run_neq_ptr_same (P := Try.prog) w (tp := 70) (te := 72) ⟨g, 0, none⟩ Try.underlying70 hj
  clear hj
  go_enter Try.func48, Try.ntmps48
  go_wp2
  go_ret
  exact ⟨rfl, rfl⟩
end Go.Proofs.Ytedbbekfpficpaa
