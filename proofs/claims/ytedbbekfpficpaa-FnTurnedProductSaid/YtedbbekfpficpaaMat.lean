import Derived.Test.YtedbbekfpficpaaDoor
import Derived.Test.YtedbbekfpficpaaList
set_option linter.unusedSimpArgs false
set_option linter.unusedVariables false
namespace Go.Proofs.Ytedbbekfpficpaa
open Go.RowKit Go.Proofs.YtedbbekfpficpaaW.PrintWords Fl
/-- A slice of slices that is being made: 'vals' are its elements; of an element that m says nothing of nothing is known. -/
structure Mat (w : World) (base row el sz : Nat) (v : Value) (vals : List Value) (m : List (Option (List (List Value)))) : Prop where
  own : w.ownsRow base row 1 v vals.length vals
  len : m.length = vals.length
  rows : ∀ (k : Nat) (x : Value) (c : List (List Value)), vals[k]? = some x → m[k]? = some (some c) → w.ownsRow base el sz x c.length c.flatten
  cells : ∀ (k : Nat) (c : List (List Value)), m[k]? = some (some c) → ∀ l ∈ c, l.length = sz
  ne : ∀ (j k : Nat) (x y : Value) (c c' : List (List Value)), j ≠ k → vals[j]? = some x → vals[k]? = some y → m[j]? = some (some c) → m[k]? = some (some c') → NeRow x y
section
variable {w w1 : World} {base row el sz : Nat} {v : Value} {vals : List Value} {m : List (Option (List (List Value)))}
theorem Mat.nil (w : World) (base row el sz : Nat) : Mat w base row el sz (.slice none 0 0) [] [] :=
  ⟨own_nil _ _ _ _, rfl, fun k x c h => by simp at h, fun k c h => by simp at h, fun j k x y c c' _ h => by simp at h⟩
/-- The blocks of the two types are as they were. -/
theorem Mat.move (h : Mat w base row el sz v vals m) (hm : ∀ (k : Nat) (cs : Array Value) (t : TypeId), w.heap[k]? = some (.cells cs t (0, 0)) → t = row ∨ t = el → base ≤ k → w1.heap[k]? = w.heap[k]?) : Mat w1 base row el sz v vals m := by
  refine ⟨own_move h.own (fun k hk => ?_), h.len, fun k x c hx hc => own_move (h.rows k x c hx hc) (fun b hb => ?_), h.cells, h.ne⟩
  · obtain ⟨cs, hcs⟩ := own_typed h.own k hk
    exact hm k cs row hcs (.inl rfl) (own_base h.own k hk)
  · obtain ⟨cs, hcs⟩ := own_typed (h.rows k x c hx hc) b hb
    exact hm b cs el hcs (.inr rfl) (own_base (h.rows k x c hx hc) b hb)
theorem Mat.below (h : Mat w base row el sz v vals m) (hb : Below w.heap.size w w1) : Mat w1 base row el sz v vals m := h.move (fun k cs t hk _ _ => hb.block k (blk_lt hk))
theorem Mat.chg {S : Nat → Prop} (h : Mat w base row el sz v vals m) (hb : Chg S w w1) (hS : ∀ k, S k → ∀ (cs : Array Value) (t : TypeId), w.heap[k]? = some (.cells cs t (0, 0)) → t ≠ row ∧ t ≠ el) : Mat w1 base row el sz v vals m :=
  h.move (fun k cs t hk ht _ => hb.block k (blk_lt hk) (fun hs => by have := hS k hs cs t hk; rcases ht with rfl | rfl; exact this.1 rfl; exact this.2 rfl))
/-- An element has been appended. -/
theorem Mat.snoc (h : Mat w base row el sz v vals m) (hre : row ≠ el) {v1 x : Value} (o : Option (List (List Value))) (hown : w1.ownsRow base row 1 v1 (vals ++ [x]).length (vals ++ [x])) (hg : w.grownBy w1 v.ownBlock)
    (hx : ∀ c, o = some c → w1.ownsRow base el sz x c.length c.flatten ∧ (∀ l ∈ c, l.length = sz) ∧ ∀ b, x.ownBlock = some b → w.heap.size ≤ b) : Mat w1 base row el sz v1 (vals ++ [x]) (m ++ [o]) := by
  have hold : ∀ (k : Nat) (y : Value) (c : List (List Value)), vals[k]? = some y → m[k]? = some (some c) → w1.ownsRow base el sz y c.length c.flatten := fun k y c hy hc => by
    refine own_other (h.rows k y c hy hc) hg ?_
    exact own_type_ne (h.rows k y c hy hc) h.own (Ne.symm hre)
  have hlast : ∀ k y, (vals ++ [x])[k]? = some y → (k < vals.length ∧ vals[k]? = some y) ∨ (k = vals.length ∧ y = x) := fun k y hy => by
    rcases Nat.lt_or_ge k vals.length with hk | hk
    · rw [List.getElem?_append_left hk] at hy; exact .inl ⟨hk, hy⟩
    · have := (List.getElem?_eq_some_iff.1 hy).1
      simp at this
      have hk' : k = vals.length := by omega
      subst hk'
      simp at hy
      exact .inr ⟨rfl, hy.symm⟩
  have hlm : ∀ k c, k < vals.length → (m ++ [o])[k]? = some (some c) → m[k]? = some (some c) := fun k c hk hc => by rw [List.getElem?_append_left (by rw [h.len]; exact hk)] at hc; exact hc
  have hle : ∀ c, (m ++ [o])[vals.length]? = some (some c) → o = some c := fun c hc => by rw [← h.len] at hc; simpa using hc
  refine ⟨hown, by simp [h.len], ?_, ?_, ?_⟩
  · intro k y c hy hc
    rcases hlast k y hy with ⟨hk, hy⟩ | ⟨rfl, rfl⟩
    · exact hold k y c hy (hlm k c hk hc)
    · exact (hx c (hle c hc)).1
  · intro k c hc
    rcases Nat.lt_or_ge k vals.length with hk | hk
    · exact h.cells k c (hlm k c hk hc)
    · have := (List.getElem?_eq_some_iff.1 hc).1
      simp [h.len] at this
      have hk' : k = vals.length := by omega
      subst hk'
      exact (hx c (hle c hc)).2.1
  · intro j k y z c c' hjk hy hz hc hc'
    rcases hlast j y hy with ⟨hj, hy1⟩ | ⟨hj, hy1⟩
    · rcases hlast k z hz with ⟨hk, hz1⟩ | ⟨hk, hz1⟩
      · exact h.ne j k y z c c' hjk hy1 hz1 (hlm j c hj hc) (hlm k c' hk hc')
      · intro b hb hb'
        subst hk
        subst hz1
        have := own_lt (h.rows j y c hy1 (hlm j c hj hc)) b hb
        have := (hx c' (hle c' hc')).2.2 b hb'
        omega
    · rcases hlast k z hz with ⟨hk, hz1⟩ | ⟨hk, hz1⟩
      · intro b hb hb'
        subst hj
        subst hy1
        have := own_lt (h.rows k z c' hz1 (hlm k c' hk hc')) b hb'
        have := (hx c (hle c hc)).2.2 b hb
        omega
      · exact absurd (hj.trans hk.symm) hjk
/-- Row k has been written in its place. -/
theorem Mat.put (h : Mat w base row el sz v vals m) (hre : row ≠ el) {k : Nat} {x : Value} {c c' : List (List Value)} (hx : vals[k]? = some x) (hc : m[k]? = some (some c)) (hown : w1.ownsRow base el sz x c'.length c'.flatten) (hl : ∀ l ∈ c', l.length = sz)
    (hm : ∀ b, b < w.heap.size → x.ownBlock ≠ some b → w1.heap[b]? = w.heap[b]?) : Mat w1 base row el sz v vals (m.set k (some c')) := by
  have hk : k < m.length := (List.getElem?_eq_some_iff.1 hc).1
  have hset : ∀ j d, (m.set k (some c'))[j]? = some (some d) → (j = k ∧ d = c') ∨ (j ≠ k ∧ m[j]? = some (some d)) := fun j d hd => by
    by_cases hj : j = k
    · subst hj
      rw [List.getElem?_set_self hk] at hd
      simp at hd
      exact .inl ⟨rfl, hd.symm⟩
    · rw [List.getElem?_set_ne (fun e => hj e.symm)] at hd
      exact .inr ⟨hj, hd⟩
  refine ⟨own_move h.own (fun b hb => hm b (own_lt h.own b hb) (fun e => ?_)), by simp [h.len], ?_, ?_, ?_⟩
  · rcases own_type_ne (h.rows k x c hx hc) h.own (Ne.symm hre) with h0 | h0
    · rw [h0] at e; cases e
    · exact h0 (e.trans hb.symm)
  · intro j y d hy hd
    rcases hset j d hd with ⟨rfl, rfl⟩ | ⟨hj, hd⟩
    · rw [hx] at hy
      injection hy with hy
      subst hy
      exact hown
    · exact own_move (h.rows j y d hy hd) (fun b hb => hm b (own_lt (h.rows j y d hy hd) b hb) (fun e => h.ne j k y x d c hj hy hx hd hc b hb e))
  · intro j d hd
    rcases hset j d hd with ⟨rfl, rfl⟩ | ⟨hj, hd⟩
    · exact hl
    · exact h.cells j d hd
  · intro i j y z d d' hij hy hz hd hd'
    rcases hset i d hd with ⟨hi, hd1⟩ | ⟨hi, hd1⟩
    · rcases hset j d' hd' with ⟨hj, hd2⟩ | ⟨hj, hd2⟩
      · exact absurd (hi.trans hj.symm) hij
      · subst hi
        exact h.ne i j y z c d' hij hy hz hc hd2
    · rcases hset j d' hd' with ⟨hj, hd2⟩ | ⟨hj, hd2⟩
      · subst hj
        exact h.ne i j y z d c hij hy hz hd1 hc
      · exact h.ne i j y z d d' hij hy hz hd1 hd2
/-- What is read of it. -/
theorem Mat.shape (h : Mat w base row el sz v vals m) : ∃ A cap, v = .slice A vals.length cap ∧ vals.length ≤ cap ∧ ∀ k x, vals[k]? = some x → ∃ g, A = some ⟨g, 0, none⟩ ∧ w.cell? ⟨g, k, none⟩ = some x ∧ w.frozen? ⟨g, k, none⟩ = false ∧ base ≤ g ∧ ∃ cs, w.heap[g]? = some (.cells cs row (0, 0)) := by
  rcases h.own.2 with ⟨hv, hn⟩ | ⟨g, cap, cur, hv, hb, hg, hn, hm, hs, ht⟩
  · refine ⟨none, 0, by rw [hv, hn], by omega, fun k x hx => ?_⟩
    have := (List.getElem?_eq_some_iff.1 hx).1
    omega
  · refine ⟨_, cap, hv, hn, fun k x hx => ⟨g, rfl, ?_, blk_frozen hg k, hb, cur, hg⟩⟩
    have := h.own.cells (g := g) (by rw [hv]; rfl) k x hx
    rwa [show (⟨g, 0, none⟩ : Addr).add k = ⟨g, k, none⟩ from by unfold Addr.add; split <;> simp_all] at this
end
/-- A row half written: the first c elements are there, the others as they were made. -/
def part {α : Type} (f : α → List Value) (z : List Value) (xs : List α) (c : Nat) : List (List Value) := (xs.take c).map f ++ List.replicate (xs.length - c) z
theorem part_length {α : Type} (f : α → List Value) (z : List Value) (xs : List α) (c : Nat) (hc : c ≤ xs.length) : (part f z xs c).length = xs.length := by
  simp [part]; omega
theorem part_zero {α : Type} (f : α → List Value) (z : List Value) (xs : List α) : part f z xs 0 = List.replicate xs.length z := by simp [part]
theorem part_all {α : Type} (f : α → List Value) (z : List Value) (xs : List α) : part f z xs xs.length = xs.map f := by simp [part]
theorem part_set {α : Type} (f : α → List Value) (z : List Value) (xs : List α) (c : Nat) (hc : c < xs.length) : (part f z xs c).set c (f xs[c]) = part f z xs (c + 1) := by
  unfold part
  rw [List.set_append_right _ _ (by simp; omega)]
  have h1 : c - ((xs.take c).map f).length = 0 := by simp; omega
  have h2 : xs.length - c = (xs.length - (c + 1)) + 1 := by omega
  rw [h1, h2, List.replicate_succ, List.set_cons_zero, take_map f xs c hc, List.append_assoc]
  rfl
theorem part_cells {α : Type} (f : α → List Value) (z : List Value) (xs : List α) (c sz : Nat) (hf : ∀ x, (f x).length = sz) (hz : z.length = sz) : ∀ l ∈ part f z xs c, l.length = sz := by
  intro l hl
  rcases List.mem_append.1 hl with h | h
  · obtain ⟨x, _, rfl⟩ := List.mem_map.1 h
    exact hf x
  · rw [List.eq_of_mem_replicate h]; exact hz
theorem flatten_length {L : List (List Value)} {sz : Nat} (h : ∀ l ∈ L, l.length = sz) : L.flatten.length = L.length * sz := by
  induction L with
  | nil => simp
  | cons a L ih => simp [ih (fun l hl => h l (List.mem_cons_of_mem _ hl)), h a (List.mem_cons_self), Nat.succ_mul, Nat.add_comm]
theorem flatten_drop {L : List (List Value)} {sz : Nat} (h : ∀ l ∈ L, l.length = sz) (j : Nat) (l : List Value) (hj : L[j]? = some l) : (L.flatten.drop (j * sz)).take sz = l := by
  induction L generalizing j with
  | nil => simp at hj
  | cons a L ih =>
    have ha := h a List.mem_cons_self
    cases j with
    | zero =>
      simp at hj
      subst hj
      simp [← ha]
    | succ j =>
      simp at hj
      have := ih (fun l hl => h l (List.mem_cons_of_mem _ hl)) j hj
      rw [List.flatten_cons, Nat.succ_mul, Nat.add_comm, ← List.drop_drop]
      rw [← ha, List.drop_left, ha]
      exact this
/-- The whole as the kinds read it. -/
theorem Mat.reads {α : Type} {w : World} {base row el : Nat} {v : Value} {vals : List Value} {d : Kd α} (f : α → List Value) (xs : List (List α)) (hd : ∀ r ∈ xs, ∀ x ∈ r, ∀ w, d.K w x (f x)) (h : Mat w base row el d.sz v vals (xs.map (fun r => some (r.map f)))) :
    ∃ A c, v = .slice A xs.length c ∧ xs.length ≤ c ∧ (Kd.slice el d).C w A xs.length xs := by
  have hlen : vals.length = xs.length := by rw [← h.len]; simp
  obtain ⟨A, cap, hv, hcap, hcells⟩ := h.shape
  refine ⟨A, cap, by rw [hv, hlen], by omega, rfl, ?_, fun hp => ?_⟩
  · rcases h.own.2 with ⟨_, hn⟩ | ⟨g, cap, cur, _, _, _, hn, hm, _, _⟩
    · omega
    · simp only [maxLen] at hm
      omega
  · obtain ⟨x0, hx0⟩ : ∃ x, vals[0]? = some x := ⟨_, List.getElem?_eq_getElem (by omega)⟩
    obtain ⟨g, rfl, _⟩ := hcells 0 x0 hx0
    refine ⟨_, rfl, fun j p hj => ?_⟩
    have hjl := (List.getElem?_eq_some_iff.1 hj).1
    obtain ⟨x, hx⟩ : ∃ x, vals[j]? = some x := ⟨_, List.getElem?_eq_getElem (by omega)⟩
    obtain ⟨g', hg', hc, _⟩ := hcells j x hx
    obtain rfl : g = g' := by injection hg' with hg'; injection hg'
    have hm : (xs.map (fun r => some (r.map f)))[j]? = some (some (p.map f)) := by simp [hj]
    have hr := h.rows j x _ hx hm
    have hl := h.cells j _ hm
    have hreps : Reps (d.K w) d.sz p (p.map f).flatten := by
      refine ⟨by rw [flatten_length hl]; simp, fun i y hy => ?_⟩
      rw [flatten_drop hl i (f y) (by simp [hy])]
      exact hd p (List.mem_of_getElem? hj) y (List.mem_of_getElem? hy) w
    obtain ⟨A', c', rfl, hrr⟩ := own_reads_row hr hreps (by simp)
    refine ⟨[.slice A' p.length c'], rfl, ⟨A', c', rfl, by simpa using own_le hr, by have h9 := hrr; simp only [List.length_map] at h9; exact h9⟩, fun i u hu => ?_⟩
    cases i with
    | zero =>
      simp at hu
      subst hu
      show w.cell? ((⟨g, 0, none⟩ : Addr).add (j * 1 + 0)) = _
      rw [Nat.mul_one, Nat.add_zero, add_plain, hc, List.length_map]
    | succ i => simp at hu
end Go.Proofs.Ytedbbekfpficpaa
