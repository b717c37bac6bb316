import Derived.Test.YtedbbekfpficpaaAll
namespace Go.Proofs.Ytedbbekfpficpaa
open Go.RowKit Go.Proofs.YtedbbekfpficpaaW.PrintWords Fl
section
variable {P : Program} {ops : Array Oper} {rest : List Oper} {o : Oper} {a : Act} {Q : Exit → Act → World → Prop} {α : Type}
/-- append(v, x): v stood at wr; x has been made since. 'ok': what the rows may be; what is new is ok. -/
theorem appendMade (d : Kd α) {w0 wr W : World} {B : Nat} (hgd : o.guard = none) (s x : Operand) (t e : TypeId) (z : Value) (bytes : Nat)
    (ho : o.op = .call { callee := .builtin .append, args := #[s, x], argTypes := #[t, t] })
    (ht : P.underlying t = some (.slice e)) (hinfo : (P.info? e).map (fun i => (i.zero, i.size, i.bytes)) = some (some z, d.sz, bytes)) (hz : z.cells.size = d.sz) (hs0 : 0 < d.sz) (hb0 : 0 < bytes)
    (v : Value) (xs : List α) (p : α) (cs : List Value) (ok : Nat → Prop) (hs : a.eval s = v) (hx : a.eval x = .slice (some ⟨W.heap.size, 0, none⟩) 1 1)
    (hM : d.M W wr.heap.size (fun _ => True) p cs) (HO : d.R e wr B ok v xs) (HB : Below B w0 wr) (hBs : B ≤ wr.heap.size) (hb1 : Below wr.heap.size wr W) (hok : ∀ k, wr.heap.size ≤ k → ok k)
    (hl : (xs.length + 1) * bytes ≤ 140737488355328)
    (h : ∀ v1 w1, d.R e w1 B ok v1 (xs ++ [p]) → Below B w0 w1 → wr.grownBy w1 v.ownBlock → (∀ k, v.ownBlock = some k → B ≤ k ∧ ok k) → wpList P ops Q rest (a.put o.dst v1) w1) :
    wpList P ops Q (o :: rest) a (W.alloc (.cells cs.toArray e)) := by
  obtain ⟨inner, hown⟩ := Kd.R_own HO
  refine Kd.R_append d (w0 := w0) B hgd s x t e z bytes ho ht hinfo hz hs0 hb0 v xs p cs ok _ hs hx (Kd.M_lower d hBs (d.M_bound (Kd.M_new hM hown))) (fun k hk => ⟨hok k hk.2.1, hk.1.2⟩) (fun k hk => hok k (Nat.le_trans hb1.size hk)) (Kd.R_below HO hb1) (below_then HB hBs hb1) (Nat.le_trans hBs hb1.size) hl ?_
  intro v1 w1 h1 h2 h3 _
  exact h v1 w1 h1 h2 ((grown_of_below hb1 _).trans h3) (fun k hk => ⟨own_base hown k hk, HO.1 k hk⟩)
end
section
variable {P : Program} {ops : Array Oper} {o : Oper} {a : Act} {Q : Exit → Act → World → Prop} {Kc : Act → World → Prop} {α : Type}
/-- The same as a step of a region that draws. -/
theorem appendMade_step (d : Kd α) {w0 wr W : World} {B : Nat} (hw : Region.wanted o (yielded ops a.tmps) = true) (s x : Operand) (t e : TypeId) (z : Value) (bytes : Nat)
    (ho : o.op = .call { callee := .builtin .append, args := #[s, x], argTypes := #[t, t] })
    (ht : P.underlying t = some (.slice e)) (hinfo : (P.info? e).map (fun i => (i.zero, i.size, i.bytes)) = some (some z, d.sz, bytes)) (hz : z.cells.size = d.sz) (hs0 : 0 < d.sz) (hb0 : 0 < bytes)
    (v : Value) (xs : List α) (p : α) (cs : List Value) (ok : Nat → Prop) (hs : a.eval s = v) (hx : a.eval x = .slice (some ⟨W.heap.size, 0, none⟩) 1 1)
    (hM : d.M W wr.heap.size (fun _ => True) p cs) (HO : d.R e wr B ok v xs) (HB : Below B w0 wr) (hBs : B ≤ wr.heap.size) (hb1 : Below wr.heap.size wr W) (hok : ∀ k, wr.heap.size ≤ k → ok k)
    (hl : (xs.length + 1) * bytes ≤ 140737488355328)
    (h : ∀ v1 w1, d.R e w1 B ok v1 (xs ++ [p]) → Below B w0 w1 → wr.grownBy w1 v.ownBlock → (∀ k, v.ownBlock = some k → B ≤ k ∧ ok k) → Kc (a.put o.dst v1) w1) :
    if Region.wanted o (yielded ops a.tmps) = true then Oper.wp P o a (W.alloc (.cells cs.toArray e)) Kc Q else Kc (a.put o.dst undef) (W.alloc (.cells cs.toArray e)) := by
  obtain ⟨inner, hown⟩ := Kd.R_own HO
  refine Kd.R_append_step d (w0 := w0) B hw s x t e z bytes ho ht hinfo hz hs0 hb0 v xs p cs ok _ hs hx (Kd.M_lower d hBs (d.M_bound (Kd.M_new hM hown))) (fun k hk => ⟨hok k hk.2.1, hk.1.2⟩) (fun k hk => hok k (Nat.le_trans hb1.size hk)) (Kd.R_below HO hb1) (below_then HB hBs hb1) (Nat.le_trans hBs hb1.size) hl ?_
  intro v1 w1 h1 h2 h3 _
  exact h v1 w1 h1 h2 ((grown_of_below hb1 _).trans h3) (fun k hk => ⟨own_base hown k hk, HO.1 k hk⟩)
end
theorem R_shape {α : Type} {d : Kd α} {e : Nat} {w : World} {base : Nat} {ok : Nat → Prop} {v : Value} {xs : List α} (h : d.R e w base ok v xs) : ∃ A n c, v = .slice A n c := by
  obtain ⟨A, c, h⟩ := Kd.R_slice h
  exact ⟨_, _, _, h⟩
end Go.Proofs.Ytedbbekfpficpaa
