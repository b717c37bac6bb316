import Derived.Test.YtedbbekfpficpaaArgM
import Derived.Test.YtedbbekfpficpaaList
set_option linter.unusedSimpArgs false
set_option linter.unusedVariables false
namespace Go.Proofs.Ytedbbekfpficpaa
open Go.RowKit Go.Proofs.YtedbbekfpficpaaW.PrintWords Go.Proofs.YtedbbekfpficpaaW.PrintLast Fl
/-- The entry of a matrix. -/
def ent (m : List (List Int)) (i j : Nat) : Int := (m.getD i []).getD j 0
/-- The sum of the first q products. -/
def dot (a b : List (List Int)) (i j : Nat) : Nat → Int
  | 0 => 0
  | q + 1 => dot a b i j q + ent a i q * ent b q j
/-- The product of an r × k and a k × c matrix. -/
def mulM (a b : List (List Int)) (r k c : Nat) : List (List Int) := (List.range r).map fun i => (List.range c).map fun j => dot a b i j k
/-- r rows of c numbers. -/
def Sized (m : List (List Int)) (r c : Nat) : Prop := m.length = r ∧ ∀ x ∈ m, x.length = c
theorem Chg.grown {S : Nat → Prop} {w0 w w1 : World} {row : Option Nat} (h : Chg S w0 w) (hg : w.grownBy w1 row) (hr : ∀ k, row = some k → w0.heap.size ≤ k) : Chg S w0 w1 :=
  ⟨hg.os.trans h.os, hg.tape.trans h.tape, hg.output.trans h.output, Nat.le_trans h.size hg.size, fun k hk hn => (hg.block k (Nat.lt_of_lt_of_le hk h.size) (fun e => by have := hr k e.symm; omega)).trans (h.block k hk hn)⟩
theorem Mat.rebuild {w2 w' : World} {base row el sz h : Nat} {v x0 x : Value} {vals : List Value} {m : List (Option (List (List Value)))} {c : List (List Value)} (hm : Mat w2 base row el sz v (vals ++ [x0]) (m ++ [none])) (hre : row ≠ el) (hv : v.ownBlock = some h)
    (hch : Chg (fun b => b = h) w2 w') (hown : w'.ownsRow base row 1 v (vals ++ [x]).length (vals ++ [x])) (hx : w'.ownsRow base el sz x c.length c.flatten) (hl : ∀ l ∈ c, l.length = sz) (hxb : ∀ b, x.ownBlock = some b → w2.heap.size ≤ b) : Mat w' base row el sz v (vals ++ [x]) (m ++ [some c]) := by
  have hml : m.length = vals.length := by have := hm.len; simpa using this
  have hold : ∀ (j : Nat) (d : List (List Value)), (m ++ [some c])[j]? = some (some d) → (j < vals.length ∧ (m ++ [none])[j]? = some (some d)) ∨ (j = vals.length ∧ d = c) := fun j d hd => by
    rcases Nat.lt_or_ge j vals.length with hj | hj
    · rw [List.getElem?_append_left (by omega)] at hd
      exact .inl ⟨hj, by rw [List.getElem?_append_left (by omega)]; exact hd⟩
    · have := (List.getElem?_eq_some_iff.1 hd).1
      simp at this
      have hk : j = m.length := by omega
      subst hk
      simp at hd
      exact .inr ⟨hml, hd.symm⟩
  have hval : ∀ (j : Nat) (y : Value), j < vals.length → (vals ++ [x])[j]? = some y → (vals ++ [x0])[j]? = some y := fun j y hj hy => by
    rw [List.getElem?_append_left hj] at hy ⊢; exact hy
  have hlast : ∀ (y : Value), (vals ++ [x])[vals.length]? = some y → y = x := fun y hy => by simpa using hy.symm
  have hrow : ∀ (j : Nat) (y : Value) (d : List (List Value)), (vals ++ [x0])[j]? = some y → (m ++ [none])[j]? = some (some d) → w'.ownsRow base el sz y d.length d.flatten := fun j y d hy hd => by
    have ho := hm.rows j y d hy hd
    refine own_move ho (fun b hb => hch.block b (own_lt ho b hb) (fun e => ?_))
    rcases own_type_ne ho hm.own (Ne.symm hre) with h0 | h0
    · rw [h0] at hb; cases hb
    · exact h0 (by rw [hb, hv, e])
  refine ⟨hown, by simp [hml], ?_, ?_, ?_⟩
  · intro j y d hy hd
    rcases hold j d hd with ⟨hj, hd1⟩ | ⟨hj, hd1⟩
    · exact hrow j y d (hval j y hj hy) hd1
    · subst hj
      subst hd1
      rw [hlast y hy]; exact hx
  · intro j d hd
    rcases hold j d hd with ⟨hj, hd1⟩ | ⟨hj, hd1⟩
    · exact hm.cells j d hd1
    · rw [hd1]; exact hl
  · intro j k y z d d' hjk hy hz hd hd'
    rcases hold j d hd with ⟨hj, hd1⟩ | ⟨hj, hd1⟩
    · rcases hold k d' hd' with ⟨hk, hd2⟩ | ⟨hk, hd2⟩
      · exact hm.ne j k y z d d' hjk (hval j y hj hy) (hval k z hk hz) hd1 hd2
      · subst hk
        rw [hlast z hz]
        intro b hb hb'
        have := own_lt (hm.rows j y d (hval j y hj hy) hd1) b hb
        have := hxb b hb'
        omega
    · rcases hold k d' hd' with ⟨hk, hd2⟩ | ⟨hk, hd2⟩
      · subst hj
        rw [hlast y hy]
        intro b hb hb'
        have := own_lt (hm.rows k z d' (hval k z hk hz) hd2) b hb'
        have := hxb b hb
        omega
      · exact absurd (hj.trans hk.symm) hjk
theorem run_assert58 (v : Value) (w : World) : (Instr.typeAssert (.iface 58 v) 20 58 false).run Try.prog w = .ok v w := by
  simp [Instr.typeAssert, run_underlying Try.underlying58]
theorem numTable (m : List (List Int)) (h1 : m.length ≤ 100) (h2 : ∀ r ∈ m, r.length ≤ 100) (b : Nat) (ty : Int) (A : Option Addr) (c : Nat) (q1 q2 : Option Addr) (w : World) (h : (Kd.slice 58 nF).C w A m.length (m.map (·.map nu))) :
    Calls Try.prog 32 #[.agg #[.string ⟨#[]⟩, .float .f64 b, .string ⟨#[]⟩, .slice none 0 0, .slice A m.length c, .bool false, .string ⟨#[]⟩, .int .u8 ty, .pointer q1, .pointer q2], .bool false] w fun e w' => (∃ A c, e = .returned (.tuple #[.slice A m.length c, .agg #[.string ⟨#[]⟩, .float .f64 0, .string ⟨#[]⟩, .slice none 0 0, .slice none 0 0, .bool false, .string ⟨#[]⟩, .int .u8 0, .pointer none, .pointer none]]) ∧
      (Kd.slice 27 dFl).C w' A m.length m) ∧ Below w.heap.size w w' := by
  have hv : (m.map (·.map nu)).map (·.map val) = m := by simp [Function.comp_def, val, nu]
  have := numMatrix (nothing 10) (List.map (List.map nu) m) (by simpa using h1) (by intro r hr; obtain ⟨q, hq, rfl⟩ := List.mem_map.1 hr; simpa using h2 q hq) (by
    intro r hr x hx
    obtain ⟨q, hq, rfl⟩ := List.mem_map.1 hr
    obtain ⟨n, hn, rfl⟩ := List.mem_map.1 hx
    rfl) b ty A c q1 q2 w (by rw [List.length_map]; exact h)
  rw [List.length_map, hv] at this
  exact this
attribute [local go_sem] run_store_float run_assert58
set_option maxHeartbeats 1000000 in
set_option maxRecDepth 100000 in
theorem mmult (ma mb : List (List Int)) (r k c : Nat) (hr : 1 ≤ r ∧ r ≤ 100) (hk : 1 ≤ k ∧ k ≤ 100) (hc : 1 ≤ c ∧ c ≤ 100) (ha : Sized ma r k) (hb : Sized mb k c)
    (hx : ∀ i j q, (ent ma i q).natAbs < 2 ^ 53 ∧ (ent mb q j).natAbs < 2 ^ 53 ∧ (ent ma i q * ent mb q j).natAbs < 2 ^ 53 ∧ (dot ma mb i j q).natAbs < 2 ^ 53)
    (g e1 e2 : Nat) (f : Value) (b1 b2 c1 c2 : Nat) (A1 A2 q1 q2 q3 q4 : Option Addr) (w : World) (hg : isL w g e1 e2 2)
    (he1 : isE w e1 e2 g g (.iface 58 (.agg #[.string ⟨#[]⟩, .float .f64 b1, .string ⟨#[]⟩, .slice none 0 0, .slice A1 ma.length c1, .bool false, .string ⟨#[]⟩, .int .u8 4, .pointer q1, .pointer q2])))
    (he2 : isE w e2 g e1 g (.iface 58 (.agg #[.string ⟨#[]⟩, .float .f64 b2, .string ⟨#[]⟩, .slice none 0 0, .slice A2 mb.length c2, .bool false, .string ⟨#[]⟩, .int .u8 4, .pointer q3, .pointer q4])))
    (h1 : (Kd.slice 58 nF).C w A1 ma.length (ma.map (·.map nu))) (h2 : (Kd.slice 58 nF).C w A2 mb.length (mb.map (·.map nu))) :
    Calls Try.prog 23 #[f, .pointer (some ⟨g, 0, none⟩)] w fun e w' => ∃ cs, e = .returned (.agg cs.toArray) ∧ tF.K w' (ta (mulM ma mb r k c)) cs ∧ Below w.heap.size w w' := by
  have k1 : w.cell? ⟨e1, 3, none⟩ = some (.iface 58 (.agg #[.string ⟨#[]⟩, .float .f64 b1, .string ⟨#[]⟩, .slice none 0 0, .slice A1 ma.length c1, .bool false, .string ⟨#[]⟩, .int .u8 4, .pointer q1, .pointer q2])) := blk_cell he1 3
  have k2 : w.cell? ⟨e2, 3, none⟩ = some (.iface 58 (.agg #[.string ⟨#[]⟩, .float .f64 b2, .string ⟨#[]⟩, .slice none 0 0, .slice A2 mb.length c2, .bool false, .string ⟨#[]⟩, .int .u8 4, .pointer q3, .pointer q4])) := blk_cell he2 3
  have hlt1 := blk_lt he1
  have hlt2 := blk_lt he2
  have kk1 := fun o => pw_cell_below ((Below.refl w.heap.size w).alloc (Nat.le_refl _) o) k1
  have kk2 := fun o => pw_cell_below ((Below.refl w.heap.size w).alloc (Nat.le_refl _) o) k2
  have kk22 := fun o o' => pw_cell_below (((Below.refl w.heap.size w).alloc (Nat.le_refl _) o).alloc (by simp <;> omega) o') k2
  have hg := Aside0.mk hg
  have h1 := Aside0.mk h1
  have h2 := Aside0.mk h2
  have hal : ma.length ≤ 100 := by have := ha.1; omega
  have hbl : mb.length ≤ 100 := by have := hb.1; omega
  have hal' : (ma.length : Int) ≤ 100 := by omega
  have hbl' : (mb.length : Int) ≤ 100 := by omega
  have har : ∀ x ∈ ma, x.length ≤ 100 := fun x hx => by have := ha.2 x hx; omega
  have hbr : ∀ x ∈ mb, x.length ≤ 100 := fun x hx => by have := hb.2 x hx; omega
  have har := Aside0.mk har
  have hbr := Aside0.mk hbr
  have hx' := Aside0.mk hx
  have ha' := Aside0.mk ha
  have hb' := Aside0.mk hb
  clear he1 he2 hx ha hb
  have hfirst := Aside0.mk trivial
  go_enter Try.func23, Try.ntmps23
  go_wp2_with (first
    | (go_at_call 27; refine (lLen g e1 e2 2 _ (by unfold isL; exact blk_below hg.out (by repeat (first | exact Below.refl _ _ | refine Below.alloc ?_ (by simp <;> omega) _)))).mono ?_; rintro e w' ⟨rfl, rfl⟩)
    | (go_at_call 29; refine (lFront g e1 e2 2 (by decide) _ (by unfold isL; exact blk_below hg.out (by repeat (first | exact Below.refl _ _ | refine Below.alloc ?_ (by simp <;> omega) _)))).mono ?_; rintro e w' ⟨rfl, rfl⟩)
    | (go_at_call 30; refine (lBack g e1 e2 2 (by decide) _ (by unfold isL; exact blk_below hg.out (by repeat (first | exact Below.refl _ _ | refine Below.alloc ?_ (by simp <;> omega) _)))).mono ?_; rintro e w' ⟨rfl, rfl⟩)
    | (refine wpList_load_row rfl 58 (.tmp 5) rfl (w.heap.size + 1) rfl 58 _ (0, 0) _ (by repeat (first | (refine blk_at ?_; simp; done) | refine blk_alloc ?_ _)) Try.underlying58 rfl (by kernel_rfl) ?_)
    | (refine wpList_load_row rfl 58 (.tmp 6) rfl (w.heap.size + 1 + 1) rfl 58 _ (0, 0) _ (blk_alloc kT6.out _) Try.underlying58 rfl (by kernel_rfl) ?_)
    | (have hq := kT6; clear hq; go_at_call 32; go_loud (refine (numTable mb hbl hbr.out b2 4 A2 c2 q3 q4 _ (Kd.C_below h2.out (below_then hb2.out hb2.out.size ((Below.refl _ _).alloc (Nat.le_refl _) _)))).mono ?_); rintro e w2 ⟨⟨A4, c4, rfl, hC4⟩, hb3⟩
       have hb4 : Below w1.heap.size w1 w2 := below_then ((Below.refl _ _).alloc (Nat.le_refl _) _) (by simp) hb3
       have kR2 := Aside0.mk (blk_below kR1.out hb4)
       have hC3' := Aside0.mk (Kd.C_below hC3.out hb4)
       have hb5 := Aside0.mk (below_step hb2.out hb4)
       have hC4 := Aside0.mk hC4
       have hsz2 : w.heap.size + 1 + 1 + 1 ≤ w2.heap.size := Nat.le_trans hsz1 hb4.size
       clear hb3 hb4 kT6 kR1 hC3)
    | (have hq := hfirst; clear hq; go_at_call 32; refine (numTable ma hal har.out b1 4 A1 c1 q1 q2 _ (Kd.C_below h1.out (by repeat (first | exact Below.refl _ _ | refine Below.alloc ?_ (by simp <;> omega) _)))).mono ?_; rintro e w1 ⟨⟨A3, c3, rfl, hC3⟩, hb1⟩
       have kT6 := Aside0.mk (blk_below (g := w.heap.size + 1 + 1) (o := Obj.cells #[.string ⟨#[]⟩, .float .f64 b2, .string ⟨#[]⟩, .slice none 0 0, .slice A2 mb.length c2, .bool false, .string ⟨#[]⟩, .int .u8 4, .pointer q3, .pointer q4] 58) (by repeat (first | (refine blk_at ?_; simp; done) | refine blk_alloc ?_ _)) hb1)
       have kR1 := Aside0.mk (blk_below (g := w.heap.size) (o := Obj.cells #[.string ⟨#[]⟩, .float .f64 0, .string ⟨#[]⟩, .slice none 0 0, .slice none 0 0, .bool false, .string ⟨#[]⟩, .int .u8 0, .pointer none, .pointer none] 58) (by repeat (first | (refine blk_at ?_; simp; done) | refine blk_alloc ?_ _)) hb1)
       have hb2 : Below w.heap.size w w1 := below_then (by repeat (first | exact Below.refl _ _ | refine Below.alloc ?_ (by simp <;> omega) _)) (by simp <;> omega) hb1
       have hb2 := Aside0.mk hb2
       have hC3 := Aside0.mk hC3
       have hsz1 : w.heap.size + 1 + 1 + 1 ≤ w1.heap.size := by have := hb1.size; simp at this; omega
       clear hb1 hfirst))
  obtain ⟨wz, hwz⟩ : ∃ wz, Aside0 (wz = w2.alloc (Obj.cells #[.string ⟨#[]⟩, .float .f64 0, .string ⟨#[]⟩, .slice none 0 0, .slice none 0 0, .bool false, .string ⟨#[]⟩, .int .u8 0, .pointer none, .pointer none] 58)) := ⟨_, ⟨rfl⟩⟩
  rw [← hwz.out]
  have hbz : Below w2.heap.size w2 wz := by rw [hwz.out]; exact (Below.refl _ _).alloc (Nat.le_refl _) _
  have hbw := Aside0.mk (below_step hb5.out hbz)
  have hCa := Aside0.mk (Kd.C_below hC3'.out hbz)
  have hCb := Aside0.mk (Kd.C_below hC4.out hbz)
  have hRz := Aside0.mk (blk_below kR2.out hbz)
  obtain ⟨ma0, hma0⟩ : ∃ x, Aside0 (ma[0]? = some x) := ⟨_, ⟨List.getElem?_eq_getElem (by have := ha'.out.1; omega)⟩⟩
  obtain ⟨mb0, hmb0⟩ : ∃ x, Aside0 (mb[0]? = some x) := ⟨_, ⟨List.getElem?_eq_getElem (by have := hb'.out.1; omega)⟩⟩
  have hl0 : ma0.length = k := ha'.out.2 _ (List.mem_of_getElem? hma0.out)
  have hl1 : mb0.length = c := hb'.out.2 _ (List.mem_of_getElem? hmb0.out)
  obtain ⟨ad3, xs3, rfl, _, ⟨Ar, cr, hx3, _, _⟩, hc3⟩ := Kd.C_get hCa.out [] 0 (by omega) (by have := ha'.out.1; omega)
  obtain ⟨ad4, xs4, rfl, _, ⟨Br, cb, hx4, _, _⟩, hc4⟩ := Kd.C_get hCb.out [] 0 (by omega) (by have := hb'.out.1; omega)
  subst hx3
  subst hx4
  have g3 : wz.cell? (ad3.add 0) = some (.slice Ar k cr) := by
    have := hc3 0 _ rfl
    rw [List.getD_eq_getElem?_getD, show (0 : Int).toNat = 0 from rfl, hma0.out] at this
    simpa [hl0, Kd.slice] using this
  have g4 : wz.cell? (ad4.add 0) = some (.slice Br c cb) := by
    have := hc4 0 _ rfl
    rw [List.getD_eq_getElem?_getD, show (0 : Int).toNat = 0 from rfl, hmb0.out] at this
    simpa [hl1, Kd.slice] using this
  have g3' : wz.cell? ad3 = some (.slice Ar k cr) := by rwa [show ad3.add 0 = ad3 from by simp [Addr.add]] at g3
  have g4' : wz.cell? ad4 = some (.slice Br c cb) := by rwa [show ad4.add 0 = ad4 from by simp [Addr.add]] at g4
  have hml : (ma.length : Int) = r := by have := ha'.out.1; omega
  have hmk : (mb.length : Int) = k := by have := hb'.out.1; omega
  have hrk : mb.length = k := hb'.out.1
  have hrr : ma.length = r := ha'.out.1
  have n1 : decide ((k : Int) = (k : Int)) = true := by simp
  have n2 : (0 : Int) < (k : Int) := by omega
  have n3 : (0 : Int) < (r : Int) := by omega
  simp only [hrk, hrr] at *
  clear k1 k2 kk1 kk2 kk22 hg h1 h2 hC3' hC4 hb2 hb5 kR2 har hbr hwz hbz hc3 hc4 hlt1 hlt2
  go_quiet (fail)
  go_wp2
  go_loopg [13, 17] r (fun kq v13 v17 w' => ∃ (i : Nat) (vals : List Value), v17 = .int .i64 i ∧ Aside0 (i + kq = r) ∧
    Aside0 (Mat w' wz.heap.size 78 27 1 v13 vals ((List.range i).map (fun p => some (((List.range c).map (fun q => dot ma mb p q k)).map (fun n => [fl n]))))) ∧ Aside0 (Below wz.heap.size wz w'))
  case atStart => exact ⟨0, [], rfl, ⟨by omega⟩, ⟨Mat.nil _ _ _ _ _⟩, ⟨by repeat (first | exact Below.refl _ _ | apply pw_below_drewN | apply Below.drew)⟩⟩
  case round =>
    obtain ⟨i, vals, rfl, HK, HM, HB⟩ := hrel
    obtain ⟨wo, rfl⟩ : ∃ wo : World, wo = wr := ⟨_, rfl⟩
    obtain ⟨go, hgo⟩ : ∃ go : Nat, Aside0 (go = gk) := ⟨_, ⟨rfl⟩⟩
    clear g3 g4 g3' g4'
    by_cases hi : i < r
    · have c0 : decide ((i : Int) < (r : Int)) = true := decide_eq_true (by omega)
      have i1 : (0 : Int) ≤ (i : Int) := by omega
      have i2 : (i : Int) < (r : Int) := by omega
      obtain ⟨ai, hai⟩ : ∃ x, Aside0 (ma[i]? = some x) := ⟨_, ⟨List.getElem?_eq_getElem (by have := ha'.out.1; omega)⟩⟩
      have hla : ai.length = k := ha'.out.2 _ (List.mem_of_getElem? hai.out)
      obtain ⟨ad3', xs3, hA3, _, ⟨Ai, ci, hx3, _, hCi⟩, hc3⟩ := Kd.C_get hCa.out [] (i : Int) i1 (by omega)
      obtain rfl : ad3 = ad3' := by injection hA3
      subst hx3
      rw [List.getD_eq_getElem?_getD, show (i : Int).toNat = i from by simp, hai.out] at hCi hc3
      have gi : ∀ w', Below wz.heap.size wz w' → w'.cell? (ad3.add i) = some (.slice Ai k ci) := fun w' h => pw_cell_below h (by
        have := hc3 0 _ rfl
        simpa [hla, Kd.slice] using this)
      have hCi := Aside0.mk (show dFl.C wz Ai k ai by have := hCi; simp only [Option.getD_some, hla] at this; exact this)
      have hvl : vals.length = i := by have := HM.out.len; simp at this; omega
      have hvl := Aside0.mk hvl
      clear hc3 hA3
      have gi1 := gi wo HB.out
      go_wp2_with (first
        | ((with_reducible refine gate_builtin (b := .append) (xs := #[.tmp 88, .tmp 90]) rfl ?_); at_builtin
           go_loud (refine print_append (w0 := wz) wz.heap.size rfl (.tmp 88) (.tmp 90) 75 78 _ 24 rfl Try.underlying75 info78 rfl (by decide) u13 vals (.slice (some ⟨wo.heap.size, 0, none⟩) 0 0) rfl (by show Value.slice (some ⟨wo.heap.size + 1, 0, none⟩) 1 1 = _; simp) rfl (HM.out.own.alloc _) (HB.out.alloc HB.out.size _) (by have := HB.out.size; simp; omega) (by have := hvl.out; omega) ?_)
           go_loud (
             intro v1 w3 ho hbb hg hat
             have hg9 := (World.grownBy_alloc wo _ u13.ownBlock).trans hg
             have hMat := HM.out.snoc (by decide) none ho hg9 (fun c hc => by cases hc)
             obtain ⟨A4, cap4, rfl, hcap4, hread⟩ := hMat.shape
             obtain ⟨h, rfl, kh, _, hh, hhc⟩ := hread i (.slice (some ⟨wo.heap.size, 0, none⟩) 0 0) (by rw [← hvl.out]; simp)
             obtain ⟨n4, hn4⟩ : ∃ n4, Aside0 (n4 = (vals ++ [Value.slice (some ⟨wo.heap.size, 0, none⟩) 0 0]).length) := ⟨_, ⟨rfl⟩⟩
             rw [← hn4.out] at hMat ⊢
             have hn5 : (i : Int) < (n4 : Int) := by have h1 := hn4.out; have h2 := hvl.out; rw [List.length_append, List.length_singleton] at h1; omega
             have gi3 := fun o => gi (w3.alloc o) (hbb.alloc hbb.size o)
             have hMat := Aside0.mk hMat; have hbb' := Aside0.mk hbb
             clear ho hg hat hg9 hread kh hhc)))
      obtain ⟨wq, hwq⟩ : ∃ wq, Aside0 (wq = w3.alloc (Obj.cells #[] 27)) := ⟨_, ⟨rfl⟩⟩
      rw [← hwq.out]
      have hbq : Below w3.heap.size w3 wq := by rw [hwq.out]; exact (Below.refl _ _).alloc (Nat.le_refl _) _
      have hR0 : dFl.R 27 wq w3.heap.size (fun _ => True) (.slice (some ⟨w3.heap.size, 0, none⟩) 0 0) [] := Kd.R_of_own (xs := []) (by
        rw [hwq.out]
        exact own_of_full (heap_alloc_new _ _) (Nat.le_refl _) rfl (by simp [maxLen])) (fun _ _ => trivial)
      have hO0 := (hMat.out.below hbq).own
      go_loopg [15, 18] c (fun kq v15 v18 w' => ∃ (j : Nat) (x : Value), v18 = .int .i64 j ∧ Aside0 (j + kq = c) ∧
        Aside0 (w'.ownsRow wz.heap.size 78 1 (.slice (some ⟨h, 0, none⟩) n4 cap4) (vals ++ [x]).length (vals ++ [x])) ∧ Aside0 (0 < j → x = v15) ∧
        Aside0 (dFl.R 27 w' w3.heap.size (fun _ => True) v15 ((List.range j).map (fun q => dot ma mb i q k))) ∧ Aside0 (Chg (fun b => b = h) w3 w') ∧ Aside0 (Below wz.heap.size wz w'))
      case atStart => exact ⟨0, _, rfl, ⟨by omega⟩, ⟨hO0⟩, ⟨fun h => absurd h (by omega)⟩, ⟨hR0⟩, ⟨Chg.of_below hbq⟩, ⟨below_then hbb'.out hbb'.out.size hbq⟩⟩
      case round =>
        clear gi3 gi1 hO0 hR0 hbq hbb hwq
        obtain ⟨j, x, rfl, HKj, HOw, HXj, HRw, HCh, HBj⟩ := hrel
        obtain ⟨wj, rfl⟩ : ∃ wj : World, wj = wr := ⟨_, rfl⟩
        obtain ⟨gj, hgj⟩ : ∃ gj : Nat, Aside0 (gj = gk) := ⟨_, ⟨rfl⟩⟩
        obtain ⟨A5, n5, c5, rfl, hn5'⟩ : ∃ A n c', u15 = .slice A n c' ∧ Aside0 (n = j) := by
          obtain ⟨A, c', h⟩ := Kd.R_slice HRw.out
          exact ⟨A, _, c', h, ⟨by simp⟩⟩
        have hn6 := hn5'.out
        subst hn6
        clear hn5'
        obtain ⟨j, hjn⟩ : ∃ j, j = n5 := ⟨_, rfl⟩
        subst hjn
        by_cases hj : j < c
        · have d0 : decide ((j : Int) < (c : Int)) = true := decide_eq_true (by omega)
          have j1 : (0 : Int) ≤ (j : Int) := by omega
          have j2 : (j : Int) < (c : Int) := by omega
          go_wp2
          go_loopg [16, 19] k (fun kq v16 v19 w' => ∃ (q : Nat), v19 = .int .i64 q ∧ v16 = fl (dot ma mb i j q) ∧ Aside0 (q + kq = k) ∧ ∃ n, w' = wj.drewN n)
          case atStart => exact ⟨0, rfl, by rw [dot, fl, F_zero], ⟨by omega⟩, 0, rfl⟩
          case round =>
            obtain ⟨q, rfl, rfl, HKq, nq, rfl⟩ := hrel
            by_cases hq : q < k
            · have f0 : decide ((q : Int) < (k : Int)) = true := decide_eq_true (by omega)
              have q1 : (0 : Int) ≤ (q : Int) := by omega
              have q2 : (q : Int) < (k : Int) := by omega
              obtain ⟨bq, hbq'⟩ : ∃ x, Aside0 (mb[q]? = some x) := ⟨_, ⟨List.getElem?_eq_getElem (by have := hb'.out.1; omega)⟩⟩
              have hlb : bq.length = c := hb'.out.2 _ (List.mem_of_getElem? hbq'.out)
              obtain ⟨ad4', xs4, hA4, _, ⟨Bq, cbq, hx4, _, hCq⟩, hc4⟩ := Kd.C_get hCb.out [] (q : Int) q1 (by omega)
              obtain rfl : ad4 = ad4' := by injection hA4
              subst hx4
              rw [List.getD_eq_getElem?_getD, show (q : Int).toNat = q from by simp, hbq'.out] at hCq hc4
              have hbwj : ∀ n, Below wz.heap.size wz (wj.drewN n) := fun n => pw_below_drewN HBj.out n
              have gb : ∀ n, (wj.drewN n).cell? (ad4.add q) = some (.slice Bq c cbq) := fun n => pw_cell_below (hbwj n) (by
                have := hc4 0 _ rfl
                simpa [hlb, Kd.slice] using this)
              have hCq : dFl.C wz Bq c bq := by have := hCq; simp only [Option.getD_some, hlb] at this; exact this
              obtain ⟨aB, csB, rfl, _, hKB, hcB⟩ := Kd.C_get hCq 0 (j : Int) j1 j2
              obtain ⟨aA, csA, hAe, _, hKA, hcA⟩ := Kd.C_get hCi.out 0 (q : Int) q1 q2
              subst hAe
              have hKB' : csB = [fl (ent mb q j)] := by
                rw [show ent mb q j = bq.getD (j : Int).toNat 0 from by simp [ent, hbq'.out]]; exact hKB
              have hKA' : csA = [fl (ent ma i q)] := by
                rw [show ent ma i q = ai.getD (q : Int).toNat 0 from by simp [ent, hai.out]]; exact hKA
              subst hKB' hKA'
              have gB : ∀ n, (wj.drewN n).cell? (aB.add j) = some (fl (ent mb q j)) := fun n => pw_cell_below (hbwj n) (by simpa [dFl, Kd.scalar] using hcB 0 _ rfl)
              have gA : ∀ n, (wj.drewN n).cell? (aA.add q) = some (fl (ent ma i q)) := fun n => pw_cell_below (hbwj n) (by simpa [dFl, Kd.scalar] using hcA 0 _ rfl)
              obtain ⟨rr, hmul, hint⟩ := mul_F (hx'.out i j q).1 (hx'.out i j q).2.1 (hx'.out i j q).2.2.1
              have hadd := add_F (hx'.out i j q).2.2.2 hint (by have := (hx'.out i j (q + 1)).2.2.2; simpa [dot] using this)
              have om : ∀ w, (binOp .mul 27 (.float .f64 (F (ent ma i q))) (.float .f64 (F (ent mb q j)))).run Try.prog w = .ok (.float .f64 rr) w := fun w => run_float_arith (P := Try.prog) w .mul 27 .f64 _ _ _ hmul
              have oa : ∀ w, (binOp .add 27 (.float .f64 (F (dot ma mb i j q))) (.float .f64 rr)).run Try.prog w = .ok (.float .f64 (F (dot ma mb i j q + ent ma i q * ent mb q j))) w := fun w => run_float_arith (P := Try.prog) w .add 27 .f64 _ _ _ hadd
              clear hmul hint hadd hc4 hcA hcB hKA hKB hCq hbwj hA4
              go_wp2
              go_quiet (fail)
              go_wp2
              go_roundg (gk - 1)
              case measure => have := HKq.out; omega
              case rel => exact ⟨q + 1, by simp, rfl, ⟨by have := HKq.out; omega⟩, _, rfl⟩
            · have f0 : decide ((q : Int) < (k : Int)) = false := decide_eq_false (by omega)
              obtain rfl : k = q := by have := HKq.out; omega
              have hhlt : h < w3.heap.size := own_lt hMat.out.own h rfl
              go_wp2
              go_loopg [15, 20] 1 (fun kq v15 v20 w' => ∃ (l : Nat), v20 = .int .i64 l ∧ Aside0 (l + kq = j + 1) ∧ Aside0 (j ≤ l) ∧ Aside0 (dFl.R 27 w' w3.heap.size (fun _ => True) v15 ((List.range j).map (fun q => dot ma mb i q k) ++ List.replicate (l - j) 0)) ∧
                Aside0 (w'.ownsRow wz.heap.size 78 1 (.slice (some ⟨h, 0, none⟩) n4 cap4) (vals ++ [x]).length (vals ++ [x])) ∧ Aside0 (Chg (fun b => b = h) w3 w') ∧ Aside0 (Below wz.heap.size wz w'))
              case atStart => exact ⟨j, rfl, ⟨rfl⟩, ⟨Nat.le_refl _⟩, ⟨by simpa using Kd.R_drewN HRw.out nq⟩, ⟨pw_own_drewN HOw.out nq⟩, ⟨HCh.out.trans (T := fun _ => False) (Chg.of_below (pw_below_drewN (Below.refl _ _) nq)) (fun _ h => h.elim)⟩, ⟨pw_below_drewN HBj.out nq⟩⟩
              case round =>
                clear HRw HOw HCh HBj
                obtain ⟨l, rfl, HKl, HLl, HRw, HOw, HCh, HBj⟩ := hrel
                by_cases hlj : l ≤ j
                · obtain rfl : j = l := by have := HLl.out; omega
                  have g0 : decide ((j : Int) ≤ (j : Int)) = true := by simp
                  go_wp2_with (first
                    | ((with_reducible refine gate_builtin (b := .append) (xs := #[.tmp 128, .tmp 129]) rfl ?_); at_builtin
                       go_loud (refine appendMade dFl (w0 := wr) (wr := wr) (B := w3.heap.size) rfl (.tmp 128) (.tmp 129) 78 27 _ 8 rfl Try.underlying78 info27 rfl (by decide) (by decide) u15 _ 0 [.float .f64 0] (fun _ => True) rfl rfl (show [Value.float .f64 0] = [fl 0] by rw [fl, F_zero]) HRw.out (Below.refl _ _) HCh.out.size (Below.refl _ _) (fun _ _ => trivial) ?aL ?_)
                       (case aL => simp; omega)
                       go_loud (
                         intro v1 w5 ho hbb hg hr5
                         have hO5 := Aside0.mk (own_other HOw.out hg (.inr (fun e => by have := (hr5 h e.symm).1; omega)))
                         have hC5 := Aside0.mk (HCh.out.grown hg (fun k hk => (hr5 k hk).1))
                         have hB5 := Aside0.mk (HBj.out.grown hg HBj.out.size (fun k hk => Nat.le_trans hbb'.out.size (hr5 k hk).1))
                         have ho := Aside0.mk ho
                         clear hbb hg hr5)))
                  go_roundg 0
                  case measure => have := HKl.out; omega
                  case rel => exact ⟨j + 1, by simp, ⟨by omega⟩, ⟨by omega⟩, ⟨by simpa using ho.out⟩, hO5, hC5, hB5⟩
                · have g0 : decide ((l : Int) ≤ (j : Int)) = false := decide_eq_false (by omega)
                  obtain rfl : l = j + 1 := by have := HKl.out; omega
                  have hown := Kd.own_of_R HRw.out
                  have hxl : ((List.range j).map (fun q => dot ma mb i q k) ++ List.replicate (j + 1 - j) 0).length = j + 1 := by simp
                  rw [hxl] at hown
                  obtain ⟨g5, cap5, rfl, _, _⟩ := hown.form (by omega)
                  have hg5 : w3.heap.size ≤ g5 := own_base hown g5 rfl
                  have ⟨s1, s2⟩ := own_at_of (d := 0) hown (j : Int) j1 (by omega)
                  simp only [Int.toNat_natCast] at s1 s2
                  have s3 : wr.cell? ⟨h, i, none⟩ = some x := by
                    have := HOw.out.cells (g := h) rfl i x (by rw [← hvl.out]; simp)
                    rwa [add_plain] at this
                  have s4 : wr.frozen? ⟨h, i, none⟩ = false := by
                    obtain ⟨csh, hch⟩ := own_typed HOw.out h rfl
                    exact blk_frozen hch i
                  have hgh : g5 ≠ h := by omega
                  have hown := Aside0.mk hown
                  have j3 : (j : Int) < ((j + 1 : Nat) : Int) := by omega
                  go_wp2
                  go_roundg (gj - 1)
                  case measure => have := HKj.out; have := hgj.out; omega
                  case rel =>
                    have hs1 := own_store_of hown.out (j : Int) (dot ma mb i j k)
                    simp only [Int.toNat_natCast] at hs1
                    have hn4' : n4 = (vals ++ [x]).length := by rw [hn4.out]; simp
                    have hOw := HOw.out
                    rw [hn4'] at hOw
                    have hs2 := (own_setCell hOw (p := ⟨g5, j, none⟩) (show some g5 ≠ some h by simpa using hgh) (fl (dot ma mb i j k))).stored i (.slice (some ⟨g5, 0, none⟩) (j + 1) cap5)
                    refine ⟨j + 1, .slice (some ⟨g5, 0, none⟩) (j + 1) cap5, by simp, ⟨by have := HKj.out; have := hgj.out; omega⟩, ⟨?_⟩, ⟨fun _ => rfl⟩, ⟨?_⟩, ⟨?_⟩, ⟨?_⟩⟩
                    · have e1 : (vals ++ [x]).set i (Value.slice (some ⟨g5, 0, none⟩) (j + 1) cap5) = vals ++ [Value.slice (some ⟨g5, 0, none⟩) (j + 1) cap5] := by
                        rw [List.set_append_right _ _ (by rw [hvl.out]; exact Nat.le_refl _), hvl.out, Nat.sub_self]; rfl
                      have := hs2.1
                      rw [e1] at this
                      rw [hn4']
                      simpa using this
                    · have e2 : ((List.range j).map (fun q => dot ma mb i q k) ++ List.replicate (j + 1 - j) 0).set j (dot ma mb i j k) = (List.range (j + 1)).map (fun q => dot ma mb i q k) := by
                        rw [show j + 1 - j = 1 from by omega, List.set_append_right _ _ (by simp), List.range_succ]
                        simp
                      have h8 := hs1.1
                      rw [e2] at h8
                      have h9 := own_setCell h8 (p := ⟨h, i, none⟩) (show some h ≠ some g5 by simpa using Ne.symm hgh) (.slice (some ⟨g5, 0, none⟩) (j + 1) cap5)
                      exact Kd.R_of_own (by simpa using h9) (fun _ _ => trivial)
                    · exact Chg.set (HCh.out.grown hs1.2 (fun q hq => by injection hq with hq; omega)) rfl _
                    · exact Below.setCell (Below.setCell HBj.out (Nat.le_trans hbb'.out.size hg5) _) (own_base HOw.out h rfl) _
        · have d0 : decide ((j : Int) < (c : Int)) = false := decide_eq_false (by omega)
          obtain rfl : c = j := by have := HKj.out; omega
          have hxe := HXj.out (by omega)
          have hrow9 := Kd.own_of_R HRw.out
          have hxo : ∀ b, x.ownBlock = some b → w3.heap.size ≤ b := fun b hb => by rw [hxe] at hb; exact own_base hrow9 b hb
          have hf9 : (encs fl ((List.range c).map (fun q => dot ma mb i q k))) = (((List.range c).map (fun q => dot ma mb i q k)).map (fun n => [fl n])).flatten := by
            generalize (List.range c).map (fun q => dot ma mb i q k) = L
            induction L with
            | nil => rfl
            | cons a L ih => simp [encs] at ih ⊢; exact ih
          have hnew : wj.ownsRow wz.heap.size 27 1 x (((List.range c).map (fun q => dot ma mb i q k)).map (fun n => [fl n])).length (((List.range c).map (fun q => dot ma mb i q k)).map (fun n => [fl n])).flatten := by
            rw [← hf9, List.length_map, hxe]
            exact own_weaken hrow9 hbb'.out.size
          have hM9 := Aside0.mk (hMat.out.rebuild (by decide) rfl HCh.out HOw.out hnew (by intro l hl; obtain ⟨n, _, rfl⟩ := List.mem_map.1 hl; rfl) hxo)
          clear hxe hrow9 hxo hf9 hnew
          go_wp2
          go_roundg (go - 1)
          case measure => have := HK.out; have := hgo.out; omega
          case rel =>
            refine ⟨i + 1, vals ++ [x], by simp, ⟨by have := HK.out; have := hgo.out; omega⟩, ⟨?_⟩, HBj⟩
            rw [List.range_succ, List.map_append]
            exact hM9.out
    · have c0 : decide ((i : Int) < (r : Int)) = false := decide_eq_false (by omega)
      obtain rfl : r = i := by have := HK.out; omega
      have hM2 : Mat wo wz.heap.size 78 27 dFl.sz u13 vals ((mulM ma mb r k c).map (fun r => some (r.map (fun n => [fl n])))) := by
        have := HM.out
        show Mat wo wz.heap.size 78 27 1 u13 vals _
        rw [mulM, List.map_map]
        exact this
      obtain ⟨A9, c9, rfl, _, hread⟩ := hM2.reads (d := dFl) (fun n => [fl n]) _ (fun _ _ _ _ _ => rfl)
      have hread := Aside0.mk hread
      have hml9 : (mulM ma mb r k c).length ≤ 100 := by simp [mulM]; omega
      have hmr9 : ∀ x ∈ mulM ma mb r k c, x.length ≤ 100 := by
        intro x hx
        obtain ⟨p, _, rfl⟩ := List.mem_map.1 hx
        simp; omega
      have hmb9 : ∀ x ∈ mulM ma mb r k c, ∀ y ∈ x, y.natAbs < 2 ^ 53 := by
        intro x hx y hy
        obtain ⟨p, _, rfl⟩ := List.mem_map.1 hx
        obtain ⟨q, _, rfl⟩ := List.mem_map.1 hy
        exact (hx'.out p q k).2.2.2
      have hq9 := Aside0.mk (And.intro hml9 (And.intro hmr9 hmb9))
      have hR9 := Aside0.mk (blk_below hRz.out HB.out)
      clear hM2 hml9 hmr9 hmb9
      obtain ⟨n9, hn9⟩ : ∃ n9, Aside0 (n9 = (mulM ma mb r k c).length) := ⟨_, ⟨rfl⟩⟩
      rw [← hn9.out]
      go_wp2_with (first
        | (go_at_call 34; rw [hn9.out]; refine (argMatrix (mulM ma mb r k c) hq9.out.1 hq9.out.2.1 hq9.out.2.2 A9 c9 _ hread.out).mono ?_; rintro e w5 ⟨⟨A8, c8, rfl, hle8, hC8⟩, hb5⟩; rw [← hn9.out]; have hle8 := Aside0.mk hle8; have hC8 := Aside0.mk hC8; have hb5 := Aside0.mk hb5)
        | (go_at_call 33; refine (newMatrix _ A8 n9 c8 rfl _).mono ?_; rintro e w6 ⟨rfl, hb6⟩; have hb6 := Aside0.mk hb6; have hR6 := Aside0.mk (blk_below (blk_below hR9.out hb5.out) hb6.out))
        | (refine wpList_store_row rfl 58 (.tmp 4) (.tmp 141) rfl w.heap.size _ rfl rfl 58 _ hR6.out (by kernel_rfl) rfl (by simp [Value.oneCell']) ?_))
      refine bodyPost_ret (results_cell_row rfl _ _ w.heap.size 58 #[.string ⟨#[]⟩, fl 0, .string ⟨#[]⟩, .slice none 0 0, .slice A8 n9 c8, .bool false, .string ⟨#[]⟩, .int .u8 4, .pointer none, .pointer none] (0, 0) _ rfl (setRow_heap _ _ _ _ _ _ hR6.out) Try.underlying58 rfl (by kernel_rfl)) rfl ?_
      have hbf : Below w.heap.size w w6 := below_step (below_step (below_step hbw.out HB.out) hb5.out) hb6.out
      refine ⟨[.string ⟨#[]⟩, fl 0, .string ⟨#[]⟩, .slice none 0 0, .slice A8 n9 c8, .bool false, .string ⟨#[]⟩, .int .u8 4, .pointer none, .pointer none], rfl, ?_, Below.setRow hbf (Nat.le_refl _) _⟩
      have hCf := hC8.out (w6.setRow w.heap.size #[.string ⟨#[]⟩, fl 0, .string ⟨#[]⟩, .slice none 0 0, .slice A8 n9 c8, .bool false, .string ⟨#[]⟩, .int .u8 4, .pointer none, .pointer none]) (fun q hq hq2 => by
        have hlt := blk_lt hRz.out
        have := HB.out.size
        rw [setRow_other _ _ _ _ (by omega)]
        exact hb6.out.block q hq2)
      have hle9 := hle8.out
      have hl9 : ((mulM ma mb r k c).map (fun x => x.map nu)).length = n9 := by rw [List.length_map, hn9.out]
      refine ⟨[.string ⟨#[]⟩, fl 0, .string ⟨#[]⟩, .slice none 0 0], [.slice A8 n9 c8, .bool false, .string ⟨#[]⟩, .int .u8 4, .pointer none, .pointer none], rfl, rfl, [.slice A8 n9 c8], [.bool false, .string ⟨#[]⟩, .int .u8 4, .pointer none, .pointer none], rfl, ⟨A8, c8, ?_, ?_, ?_⟩, rfl⟩
      · show [Value.slice A8 n9 c8] = [Value.slice A8 ((mulM ma mb r k c).map (fun x => x.map nu)).length c8]
        rw [hl9]
      · show ((mulM ma mb r k c).map (fun x => x.map nu)).length ≤ c8
        rw [List.length_map]; exact hle9
      · show (Kd.slice 58 nF).C _ A8 ((mulM ma mb r k c).map (fun x => x.map nu)).length ((mulM ma mb r k c).map (fun x => x.map nu))
        rw [List.length_map]; exact hCf
end Go.Proofs.Ytedbbekfpficpaa
