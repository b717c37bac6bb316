import Derived.Test.YtedbbekfpficpaaInner
set_option linter.unusedSimpArgs false
set_option linter.unusedVariables false
namespace Go.Proofs.Ytedbbekfpficpaa
open Go.RowKit Go.Proofs.YtedbbekfpficpaaW.PrintWords Go.Proofs.YtedbbekfpficpaaW.PrintLast Fl
/-- A table that the machine takes: r columns in its first row. -/
def Good (m : List (List Int)) (r : Nat) : Prop := 1 ≤ m.length ∧ m.length ≤ 100 ∧ (∀ x ∈ m, x.length ≤ 100) ∧ (∀ x, m[0]? = some x → x.length = r) ∧ ∀ x ∈ m, ∀ y ∈ x, y.natAbs < 2 ^ 53
def argV (A : Option Addr) (n c ga gb : Nat) : Value := .agg #[.string ⟨#[]⟩, fl 0, .string ⟨#[]⟩, .slice none 0 0, .slice A n c, .bool false, .string ⟨#[]⟩, .int .u8 4, pt ga, pt gb]
def ArgOf (m : List (List Int)) (r : Nat) (v : Value) (lo hi : Nat) (w : World) : Prop :=
  ∃ A c ga gb eb, v = argV A m.length c ga gb ∧ ∀ w'' : World, (∀ k, lo ≤ k → k < hi → w''.heap[k]? = w.heap[k]?) → ArgAt m r A c ga gb eb w''
theorem ArgOf.move {m : List (List Int)} {r : Nat} {v : Value} {lo hi : Nat} {w w1 : World} (h : ArgOf m r v lo hi w) (hm : ∀ k, lo ≤ k → k < hi → w1.heap[k]? = w.heap[k]?) : ArgOf m r v lo hi w1 := by
  obtain ⟨A, c, ga, gb, eb, rfl, h⟩ := h
  exact ⟨A, c, ga, gb, eb, rfl, fun w'' hw => h w'' (fun k h1 h2 => (hw k h1 h2).trans (hm k h1 h2))⟩
theorem ArgOf.at {m : List (List Int)} {r : Nat} {v : Value} {lo hi : Nat} {w : World} (h : ArgOf m r v lo hi w) : ∃ A c ga gb eb, v = argV A m.length c ga gb ∧ ArgAt m r A c ga gb eb w := by
  obtain ⟨A, c, ga, gb, eb, rfl, h⟩ := h
  exact ⟨A, c, ga, gb, eb, rfl, h w (fun _ _ _ => rfl)⟩
def St1 (t : List (List Int) × Nat) (g : Nat) (w : World) : Prop := ∃ e v lo hi, isL w g e e 1 ∧ isE w e g g g (.iface 58 v) ∧ g < lo ∧ hi ≤ e ∧ g < e ∧ ArgOf t.1 t.2 v lo hi w
def St2 (t u : List (List Int) × Nat) (g : Nat) (w : World) : Prop := ∃ e1 e2 v1 v2 lo hi lo' hi', isL w g e1 e2 2 ∧ isE w e1 e2 g g (.iface 58 v1) ∧ isE w e2 g e1 g (.iface 58 v2) ∧ ArgOf t.1 t.2 v1 lo hi w ∧ ArgOf u.1 u.2 v2 lo' hi' w
def St (ts : List (List (List Int) × Nat)) (g i : Nat) (w : World) : Prop :=
  (i = 0 ∧ isL w g g g 0) ∨ (i = 1 ∧ ∃ t, ts[0]? = some t ∧ St1 t g w) ∨ (i = 2 ∧ ∃ t u, ts[0]? = some t ∧ ts[1]? = some u ∧ St2 t u g w)
theorem cellsTab (w : World) (m : List (List Int)) (cs : List Value) (h : tA.K w (ta m) cs) : ∃ A c, cs = [.int .i64 5, fl 0, .string ⟨#[]⟩, .slice A m.length c] ∧ (Kd.slice 46 nA).C w A m.length (m.map (·.map nu)) := by
  obtain ⟨ca, cb, rfl, hca, A1, cc, rfl, hlr, hR⟩ := h
  have hca' : ca = [.int .i64 5, fl 0, .string ⟨#[]⟩] := hca
  subst hca'
  have hl : (ta m).2.length = m.length := by simp [ta]
  rw [hl] at hR ⊢
  exact ⟨A1, cc, rfl, hR⟩
attribute [local go_sem] run_store_float
set_option maxHeartbeats 1000000 in
set_option maxRecDepth 100000 in
theorem innerList_ (ts : List (List (List Int) × Nat)) (hlen : ts.length ≤ 2) (hgood : ∀ t ∈ ts, Good t.1 t.2) (A : Option Addr) (c : Nat) (w : World) (hC : tA.C w A ts.length (ts.map (fun t => ta t.1))) :
    Calls Try.prog 24 #[.slice A ts.length c] w fun e w' => e = .returned (pt w.heap.size) ∧ St ts w.heap.size ts.length w' ∧ Below w.heap.size w w' := by
  have HG := Aside0.mk hgood
  have hR := Aside0.mk hC
  have hlen' := Aside0.mk hlen
  clear hgood hC
  have hl1 : (ts.length : Int) ≤ 100 := by omega
  clear hlen
  go_enter Try.func24, Try.ntmps24
  go_wp2_with (go_at_call 35; refine (lNew _).mono ?_; rintro e w' ⟨rfl, rfl⟩)
  go_loopg [9] ts.length (fun kq v9 w' => ∃ (i : Nat), v9 = .int .i64 i ∧ Aside0 (i + kq = ts.length) ∧ Aside0 (St ts w.heap.size i w') ∧ Aside0 (w.heap.size < w'.heap.size) ∧ Aside0 (Below w.heap.size w w'))
  case atStart =>
    refine ⟨0, rfl, ⟨by omega⟩, ⟨.inl ⟨rfl, ?_⟩⟩, ⟨by simp⟩, ⟨(Below.refl _ _).alloc (Nat.le_refl _) _⟩⟩
    unfold isL
    exact heap_alloc_new _ _
  case round =>
    obtain ⟨i, rfl, HK, HS, HZ, HB⟩ := hrel
    by_cases hi : i < ts.length
    · have c0 : decide ((i : Int) < (ts.length : Int)) = true := decide_eq_true (by omega)
      have b1 : (0 : Int) ≤ (i : Int) := by omega
      have b2 : (i : Int) < (ts.length : Int) := by omega
      obtain ⟨ad, cs, rfl, hcl, hKe, hce⟩ := Kd.C_get hR.out (ta []) (i : Int) b1 b2
      obtain ⟨t, ht⟩ : ∃ t, Aside0 (ts[i]? = some t) := ⟨_, ⟨List.getElem?_eq_getElem hi⟩⟩
      have hgd : (ts.map (fun t => ta t.1)).getD (i : Int).toNat (ta []) = ta t.1 := by simp [List.getD_eq_getElem?_getD, ht.out]
      rw [hgd] at hKe
      obtain ⟨A1, c1, rfl, hCe⟩ := cellsTab _ _ _ hKe
      have hg := Aside0.mk (HG.out t (List.mem_of_getElem? ht.out))
      have hcell := Aside0.mk (show ∀ q u, [Value.int .i64 5, fl 0, .string ⟨#[]⟩, .slice A1 t.1.length c1][q]? = some u → wr.cell? (ad.add (i * 4 + q)) = some u from fun q u hu => pw_cell_below HB.out (hce q u hu))
      have hCe := Aside0.mk (Kd.C_below hCe HB.out)
      clear hcl hKe hce hgd
      rcases HS.out with ⟨hi0, hL⟩ | ⟨hi0, t0, ht0, ee, vv, lo, hi9, hL, hE, hlo, hhi, hge, hA0⟩ | ⟨hi0, _⟩
      · replace hi0 := Aside0.mk hi0
        replace hL := Aside0.mk hL
        go_wp2_with (first
          | (refine wpList_loadEl rfl 46 (.tmp 11) rfl ad (i * 4) rfl [Value.int .i64 5, fl 0, .string ⟨#[]⟩, .slice A1 t.1.length c1] _ hcell.out Try.underlying46 rfl (by kernel_rfl) ?_)
          | (refine wpList_load_row rfl 46 (.tmp 5) rfl _ rfl 46 _ (0, 0) _ (heap_alloc_new _ _) Try.underlying46 rfl (by kernel_rfl) ?_)
          | (go_at_call 37; refine (innerTab t.1 t.2 hg.out.1 hg.out.2.1 hg.out.2.2.1 hg.out.2.2.2.1 hg.out.2.2.2.2 A1 c1 _ (Kd.C_below hCe.out ((Below.refl _ _).alloc (Nat.le_refl _) _))).mono ?_; rintro e w1 ⟨⟨A3, c3, ga, gb, eb, rfl, hA⟩, hb1⟩
             have hb1 := Aside0.mk (below_then ((Below.refl wr.heap.size wr).alloc (Nat.le_refl _) _) (by simp) hb1)
             have hA := Aside0.mk hA)
          | (go_at_call 36; refine (lPush0 w.heap.size _ _ (by unfold isL; exact blk_below hL.out hb1.out)).mono ?_; rintro e w2 ⟨⟨e1, rfl, h0, h1, h2⟩, h3⟩; have h0 := Aside0.mk h0; have h1 := Aside0.mk h1; have h2 := Aside0.mk h2; have h3 := Aside0.mk h3))
        go_roundg (gk - 1)
        case measure => have := HK.out; omega
        case rel =>
          have z1 := h0.out
          have z2 := hb1.out.size
          have z3 := HZ.out
          refine ⟨i + 1, by simp, ⟨by have := HK.out; omega⟩, ⟨.inr (.inl ⟨by have := hi0.out; omega, t, by rw [← hi0.out]; exact ht.out, e1, _, wr.heap.size + 1, w1.heap.size, h1.out, h2.out, by omega, z1, by omega, ?_⟩)⟩, ⟨by have := h3.out.size; omega⟩, ⟨Chg.below (below_step HB.out hb1.out) h3.out (by omega) (fun q hq => by omega)⟩⟩
          refine ⟨A3, c3, ga, gb, eb, rfl, fun w'' hw => hA.out w'' (fun k k1 k2 => ?_)⟩
          simp at k1
          rw [hw k k1 k2]
          exact h3.out.block k k2 (by omega)
      · replace hi0 := Aside0.mk hi0
        replace hL := Aside0.mk hL
        replace hE := Aside0.mk hE
        replace hA0 := Aside0.mk hA0
        replace ht0 := Aside0.mk ht0
        replace hlo := Aside0.mk hlo
        replace hhi := Aside0.mk hhi
        replace hge := Aside0.mk hge
        go_wp2_with (first
          | (refine wpList_loadEl rfl 46 (.tmp 11) rfl ad (i * 4) rfl [Value.int .i64 5, fl 0, .string ⟨#[]⟩, .slice A1 t.1.length c1] _ hcell.out Try.underlying46 rfl (by kernel_rfl) ?_)
          | (refine wpList_load_row rfl 46 (.tmp 5) rfl _ rfl 46 _ (0, 0) _ (heap_alloc_new _ _) Try.underlying46 rfl (by kernel_rfl) ?_)
          | (go_at_call 37; refine (innerTab t.1 t.2 hg.out.1 hg.out.2.1 hg.out.2.2.1 hg.out.2.2.2.1 hg.out.2.2.2.2 A1 c1 _ (Kd.C_below hCe.out ((Below.refl _ _).alloc (Nat.le_refl _) _))).mono ?_; rintro e w1 ⟨⟨A3, c3, ga, gb, eb, rfl, hA⟩, hb1⟩
             have hb1 := Aside0.mk (below_then ((Below.refl wr.heap.size wr).alloc (Nat.le_refl _) _) (by simp) hb1)
             have hA := Aside0.mk hA)
          | (go_at_call 36; refine (lPush1 w.heap.size ee _ _ _ (by unfold isL; exact blk_below hL.out hb1.out) (by unfold isE; exact blk_below hE.out hb1.out)).mono ?_; rintro e w2 ⟨⟨e1, rfl, h0, h1, h2, h4⟩, h3⟩; have h0 := Aside0.mk h0; have h1 := Aside0.mk h1; have h2 := Aside0.mk h2; have h3 := Aside0.mk h3; have h4 := Aside0.mk h4))
        go_roundg (gk - 1)
        case measure => have := HK.out; omega
        case rel =>
          have z1 := h0.out
          have z2 := hb1.out.size
          have z3 := HZ.out
          have z4 := blk_lt hE.out
          have z5 := hlo.out
          have z6 := hhi.out
          refine ⟨i + 1, by simp, ⟨by have := HK.out; omega⟩, ⟨.inr (.inr ⟨by have := hi0.out; omega, t0, t, ht0.out, by rw [← hi0.out]; exact ht.out, ee, e1, _, _, lo, hi9, wr.heap.size + 1, w1.heap.size, h1.out, h2.out, h4.out, hA0.out.move (fun k k1 k2 => ?_), ?_⟩)⟩, ⟨by have := h3.out.size; omega⟩, ⟨?_⟩⟩
          · rw [h3.out.block k (by omega) (by omega)]
            exact hb1.out.block k (by omega)
          · refine ⟨A3, c3, ga, gb, eb, rfl, fun w'' hw => hA.out w'' (fun k k1 k2 => ?_)⟩
            simp at k1
            rw [hw k k1 k2]
            exact h3.out.block k k2 (by omega)
          · exact Chg.below (below_step HB.out hb1.out) h3.out (by omega) (fun q hq => by have := hge.out; rcases hq with hq | hq <;> omega)
      · have := hlen'.out
        omega
    · have c0 : decide ((i : Int) < (ts.length : Int)) = false := decide_eq_false (by omega)
      obtain rfl : i = ts.length := by have := HK.out; omega
      go_wp2
      go_ret
      exact ⟨rfl, HS.out, HB.out⟩
end Go.Proofs.Ytedbbekfpficpaa
