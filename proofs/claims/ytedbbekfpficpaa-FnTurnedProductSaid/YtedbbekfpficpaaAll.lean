import Derived.Test.YtedbbekfpficpaaSmall
namespace Go.Proofs.Ytedbbekfpficpaa
open Go.RowKit Go.Proofs.YtedbbekfpficpaaW.PrintWords Fl
theorem add_add' (ad : Addr) (m j : Nat) : (ad.add m).add j = ad.add (m + j) := by
  unfold Addr.add
  by_cases hm : m = 0
  · subst hm; simp
  · by_cases hj : j = 0
    · subst hj; simp
    · simp [hm, hj, Nat.add_assoc]
/-- An element of several cells is read out of a row. -/
theorem loadEl {P : Program} {ty : TypeId} {cs : List Value} {d : TypeDesc} (w : World) (ad : Addr) (m : Nat) (hc : ∀ j u, cs[j]? = some u → w.cell? (ad.add (m + j)) = some u)
    (hu : P.underlying ty = some d) (hd : (match d with | .struct _ | .array _ _ => true | _ => false) = true) (hi : (P.info? ty).map (·.size) = some cs.length) :
    (loadVar ty (ad.add m)).run P w = .ok (.agg cs.toArray) w := by
  have hl : (loadCells (ad.add m) cs.length).run P w = .ok cs.toArray w :=
    run_loadCells_list (P := P) w (ad.add m) cs (fun j v hv => by rw [add_add']; exact hc j v hv)
  cases hq : P.info? ty with
  | none => simp [hq] at hi
  | some i =>
    have hs : i.size = cs.length := by simpa [hq] using hi
    have hagg : (isAgg ty).run P w = .ok true w := by
      unfold isAgg
      rw [Sem.run_bind, run_underlying hu w]
      cases d <;> simp_all
    simp [loadVar, Sem.run_bind, hagg, sizeOf, typeInfo, hq, hs, hl]
theorem wpList_loadEl {P : Program} {ops : Array Oper} {rest : List Oper} {o : Oper} {a : Act} {w : World} {Q : Exit → Act → World → Prop} (hgd : o.guard = none) (ty : TypeId) (x : Operand) (ho : o.op = .load ty x)
    (ad : Addr) (m : Nat) (hx : a.eval x = .pointer (some (ad.add m))) (cs : List Value) (d : TypeDesc) (hc : ∀ j u, cs[j]? = some u → w.cell? (ad.add (m + j)) = some u)
    (hu : P.underlying ty = some d) (hd : (match d with | .struct _ | .array _ _ => true | _ => false) = true) (hi : (P.info? ty).map (·.size) = some cs.length)
    (h : wpList P ops Q rest (a.put o.dst (.agg cs.toArray)) w) : wpList P ops Q (o :: rest) a w :=
  wpList_plain hgd fun _ hK => by
    unfold Oper.wp execOp
    simp only [ho, hx, Instr.loadAt, Instr.sureAddr, Sem.run_bind, Sem.run_pure, Result.andThen_ok, loadEl w ad m hc hu hd hi]
    exact hK _ _ h
/-- What a call that makes a value of a kind leaves. -/
def Made {β : Type} (d : Kd β) (y : β) (w : World) (e : Ending) (w' : World) : Prop :=
  ∃ cs, e = .returned (.agg cs.toArray) ∧ d.M w' w.heap.size (fun _ => True) y cs ∧ Below w.heap.size w w'
def MadeRow {β : Type} (d : Kd β) (el : Nat) (ys : List β) (w : World) (e : Ending) (w' : World) : Prop :=
  ∃ v, e = .returned v ∧ d.R el w' w.heap.size (fun _ => True) v ys ∧ Below w.heap.size w w'
theorem info30 : (Try.prog.info? 30).map (fun i => (i.zero, i.size, i.bytes)) = some (some (.agg #[.int .i64 0, .float .f64 0, .string ⟨#[]⟩, .slice none 0 0]), 4, 56) := by kernel_rfl
theorem take_map {α β : Type} (f : α → β) (xs : List α) (i : Nat) (hi : i < xs.length) : (xs.take (i + 1)).map f = (xs.take i).map f ++ [f xs[i]] := by
  rw [List.take_add_one, List.getElem?_eq_getElem hi, List.map_append]; rfl
theorem getD_nat {α : Type} (xs : List α) (i : Nat) (hi : i < xs.length) (z : α) : xs.getD ((i : Int)).toNat z = xs[i] := by
  simp [List.getD_eq_getElem?_getD, List.getElem?_eq_getElem hi]
theorem five {cs : List Value} (h : cs.length = 5) : ∃ a b c d e, cs = [a, b, c, d, e] := by
  match cs, h with
  | [a, b, c, d, e], _ => exact ⟨a, b, c, d, e, rfl⟩
theorem four {cs : List Value} (h : cs.length = 4) : ∃ a b c d, cs = [a, b, c, d] := by
  match cs, h with
  | [a, b, c, d], _ => exact ⟨a, b, c, d, rfl⟩
set_option maxHeartbeats 400000 in
theorem all_ {α β : Type} (d : Kd α) (d' : Kd β) (f : α → β) (hsz : d.sz = 5) (hsz' : d'.sz = 4) (xs : List α) (hlen : xs.length ≤ 100)
    (H : ∀ x ∈ xs, ∀ cs w, d.K w x cs → Calls Try.prog 8 #[.agg cs.toArray] w (Made d' (f x) w)) (A : Option Addr) (c : Nat) (w : World) (hC : d.C w A xs.length xs) :
    Calls Try.prog 18 #[.slice A xs.length c] w (MadeRow d' 30 (xs.map f) w) := by
  have HB := Aside0.mk (Below.refl w.heap.size w)
  have HC := Aside0.mk hC
  have HH := Aside0.mk H
  have hS := Aside0.mk hsz'
  clear H hC hsz'
  have hl1 : (xs.length : Int) ≤ 100 := by omega
  go_enter Try.func18, Try.ntmps18
  go_wp2
  go_loopg [3, 4] xs.length (fun kq v3 v4 w' => ∃ (i : Nat), v4 = .int .i64 i ∧ Aside0 (i + kq = xs.length) ∧ Aside0 (d'.R 30 w' w.heap.size (fun _ => True) v3 ((xs.take i).map f)) ∧ Aside0 (Below w.heap.size w w'))
  case atStart => exact ⟨0, rfl, ⟨by omega⟩, ⟨by simpa using Kd.R_nil _ _ _ _ _⟩, HB⟩
  case round =>
    clear HB
    obtain ⟨i, rfl, HK, HO, HB⟩ := hrel
    by_cases hi : i < xs.length
    · have c0 : decide ((i : Int) < (xs.length : Int)) = true := decide_eq_true (by omega)
      have c1 : (0 : Int) ≤ (i : Int) := by omega
      have c2 : (i : Int) < (xs.length : Int) := by omega
      obtain ⟨ad, cs, rfl, hcl, hK, hcell⟩ := Kd.C_get (Kd.C_below HC.out HB.out) (xs[i]) (i : Int) c1 c2
      rw [getD_nat xs i hi] at hK
      have hK := Aside0.mk hK
      obtain ⟨y0, y1, y2, y3, y4, rfl⟩ := five (hcl.trans hsz)
      have hcell : ∀ j u, [y0, y1, y2, y3, y4][j]? = some u → wr.cell? (ad.add (i * 5 + j)) = some u := by rw [hsz] at hcell; simpa using hcell
      have hcell := Aside0.mk hcell
      clear hcl
      obtain ⟨_, hown⟩ := Kd.R_own HO.out
      have hown := Aside0.mk hown
      have hx : xs[i] ∈ xs := List.getElem_mem hi
      have hm := Aside0.mk (HH.out xs[i] hx _ wr hK.out)
      clear hx
      go_wp2_with (first
        | (refine wpList_loadEl rfl 25 (.tmp 14) rfl ad (i * 5) rfl [y0, y1, y2, y3, y4] _ hcell.out Try.underlying25 rfl (by kernel_rfl) ?_)
        | (go_at_call 8; refine (hm.out).mono ?_; rintro e w1 ⟨cs1, rfl, hM, hb1⟩; obtain ⟨x0, x1, x2, x3, rfl⟩ := four ((Kd.K_len _ (Kd.K_of_M _ hM)).trans hS.out); have hM := Aside0.mk hM; have hb1 := Aside0.mk hb1)
        | ((with_reducible refine gate_builtin (b := .append) (xs := #[.tmp 11, .tmp 17]) rfl ?_); at_builtin
           go_loud (refine Kd.R_append d' (w0 := w) w.heap.size rfl (.tmp 11) (.tmp 17) 34 30 _ 56 rfl Try.underlying34 (by rw [hS.out]; exact info30) (by rw [hS.out]; rfl) (by rw [hS.out]; decide) (by decide) u3 ((xs.take i).map f) (f xs[i]) [x0, x1, x2, x3] (fun _ => True) _ rfl rfl (Kd.M_lower _ (below_size HB.out) (Kd.M_new hM.out hown.out)) (fun _ hk => ⟨trivial, hk.2⟩) (fun _ _ => trivial) (Kd.R_below HO.out hb1.out) (below_then HB.out (below_size HB.out) hb1.out) (Nat.le_trans (below_size HB.out) (below_size hb1.out)) ?aL ?_)
           (case aL => rw [List.length_map, List.length_take]; omega)
           intro v1 w2 ho hb hg hat; rw [← take_map f xs i hi] at ho; have ho := Aside0.mk ho; have hb := Aside0.mk hb; clear hg hat))
      go_roundg (gk - 1)
      case measure => have := HK.out; omega
      case rel => exact ⟨i + 1, by simp, ⟨by have := HK.out; omega⟩, ho, hb⟩
    · have c0 : decide ((i : Int) < (xs.length : Int)) = false := decide_eq_false (by omega)
      have h1 : xs.take i = xs := List.take_of_length_le (by omega)
      rw [h1] at HO
      go_wp2
      go_ret
      exact ⟨_, rfl, HO.out, HB.out⟩
end Go.Proofs.Ytedbbekfpficpaa
