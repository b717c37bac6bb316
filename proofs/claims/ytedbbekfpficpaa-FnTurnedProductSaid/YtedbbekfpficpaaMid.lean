import Derived.Test.YtedbbekfpficpaaNumM
import Derived.Deep.MidRow
set_option linter.unusedSimpArgs false
set_option linter.unusedVariables false
namespace Go.Proofs.Ytedbbekfpficpaa
open Go.RowKit Go.Proofs.YtedbbekfpficpaaW.PrintWords Fl
/-- Several cells of a block, written in their place. -/
theorem heap_setCells (g : Nat) (t : TypeId) : ∀ (vs : List Value) (o : Nat) (cs : List Value) (w : World), w.heap[g]? = some (.cells cs.toArray t (0, 0)) → o + vs.length ≤ cs.length →
    (w.setCells g o vs).heap[g]? = some (.cells (cs.take o ++ vs ++ cs.drop (o + vs.length)).toArray t (0, 0))
  | [], o, cs, w, hg, hl => by
    rw [World.setCells, hg]
    simp
  | v :: r, o, cs, w, hg, hl => by
    simp only [List.length_cons] at hl
    have h1 := blk_set hg o v
    have h2 : (w.setCell ⟨g, o, none⟩ v).heap[g]? = some (.cells (cs.set o v).toArray t (0, 0)) := by simpa using h1
    have h3 := heap_setCells g t r (o + 1) (cs.set o v) (w.setCell ⟨g, o, none⟩ v) h2 (by simp; omega)
    rw [World.setCells, h3]
    have e1 : (cs.set o v).take (o + 1) = cs.take o ++ [v] := by
      rw [List.take_add_one, List.take_set_of_le (Nat.le_refl o), List.getElem?_set_self (by omega)]
      rfl
    have e2 : (cs.set o v).drop (o + 1 + r.length) = cs.drop (o + 1 + r.length) := by
      rw [List.drop_set_of_lt (by omega)]
    rw [e1, e2]
    simp [Nat.add_comm, Nat.add_left_comm, List.append_assoc]
theorem setCells_other (g : Nat) : ∀ (vs : List Value) (o : Nat) (w : World) (k : Nat), k ≠ g → (w.setCells g o vs).heap[k]? = w.heap[k]?
  | [], _, _, _, _ => rfl
  | v :: r, o, w, k, hk => by
    rw [World.setCells, setCells_other g r (o + 1) _ k hk]
    exact Below.heap_setCell w ⟨g, o, none⟩ v k hk
theorem below_setCells {B g : Nat} (hg : B ≤ g) : ∀ (vs : List Value) (o : Nat) (w0 w : World), Below B w0 w → Below B w0 (w.setCells g o vs)
  | [], _, _, _, h => h
  | v :: r, o, w0, w, h => below_setCells hg r (o + 1) w0 _ (Below.setCell h hg v)
theorem chg_setCells {S : Nat → Prop} {g : Nat} (hg : S g) : ∀ (vs : List Value) (o : Nat) (w0 w : World), Chg S w0 w → Chg S w0 (w.setCells g o vs)
  | [], _, _, _, h => h
  | v :: r, o, w0, w, h => chg_setCells hg r (o + 1) w0 _ (Chg.set h hg v)
theorem flatten_set {L : List (List Value)} {sz : Nat} (h : ∀ l ∈ L, l.length = sz) (j : Nat) (l : List Value) (hj : j < L.length) : (L.set j l).flatten = L.flatten.take (j * sz) ++ l ++ L.flatten.drop (j * sz + sz) := by
  induction L generalizing j with
  | nil => simp at hj
  | cons a L ih =>
    have ha := h a List.mem_cons_self
    cases j with
    | zero =>
      simp [List.drop_append_of_le_length, ← ha]
    | succ j =>
      have := ih (fun l hl => h l (List.mem_cons_of_mem _ hl)) j (by simpa using hj)
      rw [List.set_cons_succ, List.flatten_cons, this, List.flatten_cons]
      have e1 : (j + 1) * sz = a.length + j * sz := by rw [Nat.succ_mul, ha, Nat.add_comm]
      rw [e1, List.take_append, List.take_of_length_le (Nat.le_add_right _ _), Nat.add_sub_cancel_left, Nat.add_assoc, List.drop_append, List.drop_eq_nil_of_le (Nat.le_add_right _ _), Nat.add_sub_cancel_left]
      simp [List.append_assoc]
theorem made_flat' (z : List Value) (sz n : Nat) (hz : z.length = sz) (h0 : 0 < sz) : (madeCells z.toArray (n * sz)).toList = (List.replicate n z).flatten := by
  apply List.ext_getElem
  · have : (List.replicate n z).flatten.length = n * sz := by
      rw [flatten_length (sz := sz) (fun l hl => by rw [List.eq_of_mem_replicate hl]; exact hz)]; simp
    simp only [madeCells, Array.length_toList, Array.size_map, Array.size_range, this]
  · intro i h1 h2
    have hi : i < n * sz := by simpa [madeCells] using h1
    have hq : i / sz < n := Nat.div_lt_of_lt_mul (by rw [Nat.mul_comm]; exact hi)
    have hr : i % sz < sz := Nat.mod_lt _ h0
    have hd := flatten_drop (L := List.replicate n z) (sz := sz) (fun l hl => by rw [List.eq_of_mem_replicate hl]; exact hz) (i / sz) z (by simp [hq])
    have hx : ((List.replicate n z).flatten.drop (i / sz * sz)).take sz = z := hd
    have e : i = i / sz * sz + i % sz := by rw [Nat.mul_comm]; exact (Nat.div_add_mod i sz).symm
    have h3 : (List.replicate n z).flatten[i]? = z[i % sz]? := by
      conv => rhs; rw [← hx]
      rw [List.getElem?_take, if_pos hr, List.getElem?_drop, ← e]
    have h4 : (List.replicate n z).flatten[i] = z[i % sz]'(by omega) := by
      have := h3
      rw [List.getElem?_eq_getElem h2, List.getElem?_eq_getElem (show i % sz < z.length by omega)] at this
      exact Option.some.inj this
    rw [h4]
    simp [madeCells, hz]
    rw [List.getElem?_eq_getElem (by omega)]; rfl
theorem run_makeN {P : Program} (t e : TypeId) (z : Value) (sz bytes : Nat) (ht : P.underlying t = some (.slice e)) (hinfo : (P.info? e).map (fun i => (i.zero, i.size, i.bytes)) = some (some z, sz, bytes)) (hb0 : 0 < bytes)
    (m : Nat) (hn : m * bytes ≤ 281474976710656) :
    ∀ W : World, (Instr.makeSlice t (.int .i64 (m : Int)) (.int .i64 (m : Int))).run P W = .ok (.slice (some ⟨W.heap.size, 0, none⟩) m m) (W.alloc (.cells (madeCells z.cells (m * sz)) e)) := by
  intro W
  obtain ⟨i, hi, hzz⟩ := Option.map_eq_some_iff.1 hinfo
  simp only [Prod.mk.injEq] at hzz
  obtain ⟨hz0, hz1, hz2⟩ := hzz
  have hm : m ≤ 281474976710656 := Nat.le_trans (Nat.le_mul_of_pos_right _ hb0) hn
  have hb : (i.bytes : Int) * (m : Int) ≤ 281474976710656 := by
    rw [hz2]
    have h : ((bytes * m : Nat) : Int) ≤ 281474976710656 := by rw [Nat.mul_comm]; omega
    rwa [Int.natCast_mul] at h
  have hr := run_make (P := P) W t e i z ht hi hz0 .i64 .i64 m m (by omega) (by omega) hb (by omega)
  simp only [Int.toNat_natCast] at hr
  rw [← hz1]
  exact hr
end Go.Proofs.Ytedbbekfpficpaa
