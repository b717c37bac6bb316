import Derived.Test.YtedbbekfpficpaaMinMax
import Derived.Test.YtedbbekfpficpaaLaw
set_option linter.unusedSimpArgs false
set_option linter.unusedVariables false
namespace Go.Proofs.Ytedbbekfpficpaa
open Go.RowKit Go.Proofs.YtedbbekfpficpaaW.PrintWords Go.Proofs.YtedbbekfpficpaaW.PrintLast Fl
/-- An element of which nothing was known has been stored, its own row laid since. -/
theorem Mat.fill {w w1 : World} {base row el sz gv : Nat} {v : Value} {vals : List Value} {m : List (Option (List (List Value)))} (h : Mat w base row el sz v vals m) (hre : row ≠ el) (hv : v.ownBlock = some gv) {k : Nat} {x : Value} {c : List (List Value)} (hk : m[k]? = some none)
    (hw : ∀ b, b < w.heap.size → b ≠ gv → w1.heap[b]? = w.heap[b]?) (hown : w1.ownsRow base row 1 v (vals.set k x).length (vals.set k x)) (hx : w1.ownsRow base el sz x c.length c.flatten) (hl : ∀ l ∈ c, l.length = sz) (hxb : ∀ b, x.ownBlock = some b → w.heap.size ≤ b) :
    Mat w1 base row el sz v (vals.set k x) (m.set k (some c)) := by
  have hkm : k < m.length := (List.getElem?_eq_some_iff.1 hk).1
  have hkv : k < vals.length := by rw [← h.len]; exact hkm
  have hset : ∀ j d, (m.set k (some c))[j]? = some (some d) → (j = k ∧ d = c) ∨ (j ≠ k ∧ m[j]? = some (some d)) := fun j d hd => by
    by_cases hj : j = k
    · subst hj
      rw [List.getElem?_set_self hkm] at hd
      simp at hd
      exact .inl ⟨rfl, hd.symm⟩
    · rw [List.getElem?_set_ne (fun e => hj e.symm)] at hd
      exact .inr ⟨hj, hd⟩
  have hval : ∀ j y, j ≠ k → (vals.set k x)[j]? = some y → vals[j]? = some y := fun j y hj hy => by
    rwa [List.getElem?_set_ne (fun e => hj e.symm)] at hy
  have hself : ∀ y, (vals.set k x)[k]? = some y → y = x := fun y hy => by
    rw [List.getElem?_set_self hkv] at hy
    exact (Option.some.inj hy).symm
  have hrow : ∀ (j : Nat) (y : Value) (d : List (List Value)), vals[j]? = some y → m[j]? = some (some d) → w1.ownsRow base el sz y d.length d.flatten := fun j y d hy hd => by
    have ho := h.rows j y d hy hd
    refine own_move ho (fun b hb => hw b (own_lt ho b hb) (fun e => ?_))
    rcases own_type_ne ho h.own (Ne.symm hre) with h0 | h0
    · rw [h0] at hb; cases hb
    · exact h0 (by rw [hb, hv, e])
  refine ⟨hown, by simp [h.len], ?_, ?_, ?_⟩
  · intro j y d hy hd
    rcases hset j d hd with ⟨rfl, rfl⟩ | ⟨hj, hd⟩
    · rw [hself y hy]; exact hx
    · exact hrow j y d (hval j y hj hy) hd
  · intro j d hd
    rcases hset j d hd with ⟨rfl, rfl⟩ | ⟨hj, hd⟩
    · exact hl
    · exact h.cells j d hd
  · intro i j y z d d' hij hy hz hd hd'
    rcases hset i d hd with ⟨hi, hd1⟩ | ⟨hi, hd1⟩
    · rcases hset j d' hd' with ⟨hj, hd2⟩ | ⟨hj, hd2⟩
      · exact absurd (hi.trans hj.symm) hij
      · subst hi
        rw [hself y hy]
        intro b hb hb'
        have := own_lt (h.rows j z d' (hval j z hj hz) hd2) b hb'
        have := hxb b hb
        omega
    · rcases hset j d' hd' with ⟨hj, hd2⟩ | ⟨hj, hd2⟩
      · subst hj
        rw [hself z hz]
        intro b hb hb'
        have := own_lt (h.rows i y d (hval i y hi hy) hd1) b hb
        have := hxb b hb'
        omega
      · exact h.ne i j y z d d' hij (hval i y hi hy) (hval j z hj hz) hd1 hd2
/-- A column. -/
def colM (m : List (List Int)) (r j : Nat) : List Int := (List.range r).map fun i => ent m i j
theorem colM_length (m : List (List Int)) (r j : Nat) : (colM m r j).length = r := by simp [colM]
/-- The entry of the matrix under way: i rows of the source are in, of the next one the first cur numbers. -/
def entX (m : List (List Int)) (r i cur j : Nat) : Option (List (List Value)) := if j < cur then some (part cellsN cellsZ (colM m r j) (i + 1)) else if i = 0 then none else some (part cellsN cellsZ (colM m r j) i)
def msX (m : List (List Int)) (r c i cur : Nat) : List (Option (List (List Value))) := (List.range c).map (entX m r i cur)
theorem msX_get (m : List (List Int)) (r c i cur j : Nat) (hj : j < c) : (msX m r c i cur)[j]? = some (entX m r i cur j) := by simp [msX, hj]
theorem msX_next (m : List (List Int)) (r c i : Nat) : msX m r c i c = msX m r c (i + 1) 0 := by
  unfold msX
  refine List.map_congr_left (fun j hj => ?_)
  have := List.mem_range.1 hj
  simp [entX, this]
theorem msX_set (m : List (List Int)) (r c i j : Nat) (L : List (Option (List (List Value)))) (hL : ∀ k, k ≠ j → L[k]? = (msX m r c i j)[k]?) (hl : L.length = c) (hj : j < c) : L.set j (some (part cellsN cellsZ (colM m r j) (i + 1))) = msX m r c i (j + 1) := by
  apply List.ext_getElem?
  intro k
  by_cases hk : k = j
  · subst hk
    rw [List.getElem?_set_self (by omega), msX_get _ _ _ _ _ _ hj]
    simp [entX]
  · rw [List.getElem?_set_ne (fun e => hk e.symm), hL k hk]
    by_cases hc : k < c
    · rw [msX_get _ _ _ _ _ _ hc, msX_get _ _ _ _ _ _ hc]
      unfold entX
      by_cases h1 : k < j
      · rw [if_pos h1, if_pos (by omega)]
      · rw [if_neg h1, if_neg (show ¬ k < j + 1 by omega)]
    · simp [msX, hc]
/-- The matrix under way, its own slice's block h of c elements; vals: what these are. -/
structure Mx (w : World) (B h : Nat) (m : List (List Int)) (r c i cur : Nat) (vals : List Value) : Prop where
  mat : Mat w B 53 58 10 (.slice (some ⟨h, 0, none⟩) c c) vals (msX m r c i cur)
  made : ∀ j x, vals[j]? = some x → (j < cur ∨ 0 < i) → ∃ gx, x = .slice (some ⟨gx, 0, none⟩) r r
  bare : ∀ j x, vals[j]? = some x → ¬ (j < cur ∨ 0 < i) → x = .slice none 0 0
theorem Mx.len {w : World} {B h : Nat} {m : List (List Int)} {r c i cur : Nat} {vals : List Value} (hx : Mx w B h m r c i cur vals) : vals.length = c := by rw [← hx.mat.len]; simp [msX]
theorem Mx.full {w : World} {B h : Nat} {m : List (List Int)} {r c i cur : Nat} {vals : List Value} (hx : Mx w B h m r c i cur vals) : w.heap[h]? = some (.cells vals.toArray 53 (0, 0)) ∧ B ≤ h ∧ c ≤ maxLen := by
  have ho := hx.mat.own
  rw [hx.len] at ho
  exact own_full ho
theorem Mx.below {w w1 : World} {B h : Nat} {m : List (List Int)} {r c i cur : Nat} {vals : List Value} (hx : Mx w B h m r c i cur vals) (hb : Below w.heap.size w w1) : Mx w1 B h m r c i cur vals := ⟨hx.mat.below hb, hx.made, hx.bare⟩
theorem Mx.start {w : World} {B h : Nat} {m : List (List Int)} {r c : Nat} (hh : w.heap[h]? = some (.cells (madeCells #[Value.slice none 0 0] c) 53 (0, 0))) (hB : B ≤ h) (hc : c ≤ 100) : Mx w B h m r c 0 0 (List.replicate c (.slice none 0 0)) := by
  have hfl : (madeCells #[Value.slice none 0 0] c) = (List.replicate c (Value.slice none 0 0)).toArray := by
    apply Array.ext'
    rw [made_flat]
    have : ∀ n, (List.replicate n [Value.slice none 0 0]).flatten = List.replicate n (Value.slice none 0 0) := by
      intro n
      induction n with
      | zero => rfl
      | succ n ih => rw [List.replicate_succ, List.flatten_cons, ih, List.replicate_succ]; rfl
    exact this c
  refine ⟨⟨?_, by simp [msX], ?_, ?_, ?_⟩, ?_, ?_⟩
  · have := own_of_full (sz := 1) (n := c) (cs := List.replicate c (Value.slice none 0 0)) (w := w) (g := h) (el := 53) (base := B) (by rw [hh, hfl]) hB (by simp) (by simp only [maxLen]; omega)
    rw [List.length_replicate]
    exact this
  · intro k x d _ hd
    by_cases hk : k < c
    · rw [msX_get _ _ _ _ _ _ hk] at hd; simp [entX] at hd
    · simp [msX, hk] at hd
  · intro k d hd
    by_cases hk : k < c
    · rw [msX_get _ _ _ _ _ _ hk] at hd; simp [entX] at hd
    · simp [msX, hk] at hd
  · intro j k x y d d' _ _ _ hd _
    by_cases hk : j < c
    · rw [msX_get _ _ _ _ _ _ hk] at hd; simp [entX] at hd
    · simp [msX, hk] at hd
  · intro j x _ h0; omega
  · intro j x hx _
    exact List.eq_of_mem_replicate (List.mem_of_getElem? hx)
theorem Mx.next {w : World} {B h : Nat} {m : List (List Int)} {r c i : Nat} {vals : List Value} (hx : Mx w B h m r c i c vals) : Mx w B h m r c (i + 1) 0 vals := by
  have hl := hx.len
  refine ⟨by rw [← msX_next]; exact hx.mat, fun j x hj _ => hx.made j x hj (.inl ?_), fun j x _ h0 => by omega⟩
  have := (List.getElem?_eq_some_iff.1 hj).1
  omega
/-- The matrix with element j ready for its number i: what the store meets. -/
structure Rd (w : World) (B h : Nat) (m : List (List Int)) (r c i j gx : Nat) (vals : List Value) (L : List (Option (List (List Value)))) : Prop where
  mat : Mat w B 53 58 10 (.slice (some ⟨h, 0, none⟩) c c) vals L
  others : ∀ k, k ≠ j → L[k]? = (msX m r c i j)[k]?
  this : L[j]? = some (some (part cellsN cellsZ (colM m r j) i))
  val : vals[j]? = some (.slice (some ⟨gx, 0, none⟩) r r)
  made : ∀ k x, vals[k]? = some x → (k < j + 1 ∨ 0 < i) → ∃ gx, x = .slice (some ⟨gx, 0, none⟩) r r
  bare : ∀ k x, vals[k]? = some x → ¬ (k < j + 1 ∨ 0 < i) → x = .slice none 0 0
theorem Mx.ready {w : World} {B h : Nat} {m : List (List Int)} {r c i j : Nat} {vals : List Value} (hx : Mx w B h m r c i j vals) (hi : 0 < i) (hj : j < c) : ∃ gx, Rd w B h m r c i j gx vals (msX m r c i j) := by
  obtain ⟨x, hxv⟩ : ∃ x, vals[j]? = some x := ⟨_, List.getElem?_eq_getElem (by rw [hx.len]; exact hj)⟩
  obtain ⟨gx, rfl⟩ := hx.made j x hxv (.inr hi)
  refine ⟨gx, hx.mat, fun _ _ => rfl, ?_, hxv, fun k x hk _ => hx.made k x hk (.inr hi), fun k x _ h0 => by omega⟩
  rw [msX_get _ _ _ _ _ _ hj]
  unfold entX
  rw [if_neg (by omega), if_neg (by omega)]
theorem Mx.fresh {w w1 : World} {B h gx : Nat} {m : List (List Int)} {r c j : Nat} {vals : List Value} (hx : Mx w B h m r c 0 j vals) (hj : j < c) (hr : r ≤ 100) (hgx : w.heap.size ≤ gx) (hB : B ≤ gx)
    (hw : ∀ b, b < w.heap.size → b ≠ h → w1.heap[b]? = w.heap[b]?) (hh : w1.heap[h]? = some (.cells (vals.set j (.slice (some ⟨gx, 0, none⟩) r r)).toArray 53 (0, 0))) (hg : w1.heap[gx]? = some (.cells (madeCells cellsZ.toArray (r * 10)) 58 (0, 0))) :
    Rd w1 B h m r c 0 j gx (vals.set j (.slice (some ⟨gx, 0, none⟩) r r)) ((msX m r c 0 j).set j (some (part cellsN cellsZ (colM m r j) 0))) := by
  have hlen := hx.len
  have hk : (msX m r c 0 j)[j]? = some none := by rw [msX_get _ _ _ _ _ _ hj]; unfold entX; rw [if_neg (by omega), if_pos rfl]
  have hpl : (part cellsN cellsZ (colM m r j) 0).length = r := by rw [part_length _ _ _ _ (Nat.zero_le _), colM_length]
  refine ⟨?_, ?_, ?_, ?_, ?_, ?_⟩
  · refine hx.mat.fill (by decide) rfl hk hw ?_ ?_ (part_cells _ _ _ _ 10 (fun _ => rfl) rfl) (fun b hb => by simp [Value.ownBlock] at hb; omega)
    · have hl2 : (vals.set j (Value.slice (some ⟨gx, 0, none⟩) r r)).length = c := by simp [hlen]
      rw [hl2]
      exact own_of_full hh hx.full.2.1 (by simp [hlen]) hx.full.2.2
    · rw [hpl]
      refine own_of_full ?_ hB ?_ (by simp only [maxLen]; omega)
      · rw [hg, part_zero, colM_length, ← made_flat' cellsZ 10 r rfl (by decide)]
      · rw [flatten_length (part_cells _ _ _ _ 10 (fun _ => rfl) rfl), hpl]
  · intro k hk
    rw [List.getElem?_set_ne (fun e => hk e.symm)]
  · rw [List.getElem?_set_self (by simp [msX, hj])]
  · rw [List.getElem?_set_self (by omega)]
  · intro k x hk h0
    by_cases he : k = j
    · subst he
      rw [List.getElem?_set_self (by omega)] at hk
      exact ⟨gx, (Option.some.inj hk).symm⟩
    · rw [List.getElem?_set_ne (fun e => he e.symm)] at hk
      exact hx.made k x hk (by omega)
  · intro k x hk h0
    rw [List.getElem?_set_ne (by omega)] at hk
    exact hx.bare k x hk (by omega)
theorem Rd.there {w : World} {B h : Nat} {m : List (List Int)} {r c i j gx : Nat} {vals : List Value} {L : List (Option (List (List Value)))} (hx : Rd w B h m r c i j gx vals L) (hi : i < r) :
    w.heap[gx]? = some (.cells (part cellsN cellsZ (colM m r j) i).flatten.toArray 58 (0, 0)) ∧ B ≤ gx ∧ (part cellsN cellsZ (colM m r j) i).flatten.length = r * 10 := by
  have hrw := hx.mat.rows j _ _ hx.val hx.this
  rw [part_length _ _ _ _ (by rw [colM_length]; omega), colM_length] at hrw
  obtain ⟨h1, h2, _⟩ := own_full hrw
  exact ⟨h1, h2, by rw [flatten_length (part_cells _ _ _ _ 10 (fun _ => rfl) rfl), part_length _ _ _ _ (by rw [colM_length]; omega), colM_length]⟩
theorem Rd.below {w w1 : World} {B h : Nat} {m : List (List Int)} {r c i j gx : Nat} {vals : List Value} {L : List (Option (List (List Value)))} (hx : Rd w B h m r c i j gx vals L) (hb : Below w.heap.size w w1) : Rd w1 B h m r c i j gx vals L :=
  ⟨hx.mat.below hb, hx.others, hx.this, hx.val, hx.made, hx.bare⟩
theorem Rd.len {w : World} {B h : Nat} {m : List (List Int)} {r c i j gx : Nat} {vals : List Value} {L : List (Option (List (List Value)))} (hx : Rd w B h m r c i j gx vals L) : vals.length = c := by
  obtain ⟨A, cap, hv, _⟩ := hx.mat.shape
  injection hv with _ h1
  exact h1.symm
theorem Rd.cell {w : World} {B h : Nat} {m : List (List Int)} {r c i j gx : Nat} {vals : List Value} {L : List (Option (List (List Value)))} (hx : Rd w B h m r c i j gx vals L) : w.cell? ⟨h, j, none⟩ = some (.slice (some ⟨gx, 0, none⟩) r r) := by
  obtain ⟨A, cap, hv, _, hrd⟩ := hx.mat.shape
  obtain ⟨h', hA, hc, _⟩ := hrd j _ hx.val
  injection hv with hv
  rw [hA] at hv
  injection hv with hv
  injection hv with hv
  rw [hv]; exact hc
/-- The number is in. -/
theorem Rd.store {w : World} {B h : Nat} {m : List (List Int)} {r c i j gx : Nat} {vals : List Value} {L : List (Option (List (List Value)))} (hx : Rd w B h m r c i j gx vals L) (hi : i < r) (hr : r ≤ 100) (hj : j < c) : Mx (w.setCells gx (i * 10) (cellsN (ent m i j))) B h m r c i (j + 1) vals := by
  obtain ⟨h1, h2, h3⟩ := hx.there hi
  have hicol : i < (colM m r j).length := by rw [colM_length]; exact hi
  have hcol : (colM m r j)[i] = ent m i j := by simp [colM]
  have hLl : L.length = c := by rw [hx.mat.len]; exact hx.len
  have hset : (w.setCells gx (i * 10) (cellsN (ent m i j))).heap[gx]? = _ := heap_setCells gx 58 (cellsN (ent m i j)) (i * 10) _ w h1 (by rw [h3]; show i * 10 + 10 ≤ _; omega)
  have hpl : (part cellsN cellsZ (colM m r j) (i + 1)).length = r := by rw [part_length _ _ _ _ (by omega), colM_length]
  have hput := hx.mat.put (w1 := w.setCells gx (i * 10) (cellsN (ent m i j))) (by decide) hx.val hx.this (c' := part cellsN cellsZ (colM m r j) (i + 1)) (by
    rw [hpl]
    refine own_of_full ?_ h2 ?_ (by simp only [maxLen]; omega)
    · rw [hset, ← part_set _ _ _ _ hicol, hcol, flatten_set (part_cells _ _ _ _ 10 (fun _ => rfl) rfl) i _ (by rw [part_length _ _ _ _ (by omega)]; exact hicol)]
      rfl
    · rw [flatten_length (part_cells _ _ _ _ 10 (fun _ => rfl) rfl), hpl]) (part_cells _ _ _ _ 10 (fun _ => rfl) rfl)
    (fun b _ hne => setCells_other _ _ _ _ _ (fun e => hne (by simp [Value.ownBlock, e])))
  rw [msX_set m r c i j L hx.others hLl hj] at hput
  exact ⟨hput, hx.made, hx.bare⟩
/-- All rows are in: the columns. -/
theorem Mx.done {w : World} {B h : Nat} {m : List (List Int)} {r c : Nat} {vals : List Value} (hx : Mx w B h m r c r 0 vals) (hr : 0 < r) : ∀ w'' : World, (∀ k, B ≤ k → k < w.heap.size → w''.heap[k]? = w.heap[k]?) → (Kd.slice 58 nF).C w'' (some ⟨h, 0, none⟩) c ((turnM m r c).map (·.map nu)) := by
  intro w'' hk
  have hm := hx.mat.move (w1 := w'') (fun k cs t hc _ hb => hk k hb (blk_lt hc))
  have he : msX m r c r 0 = ((turnM m r c).map (·.map nu)).map (fun r => some (r.map (fun x => cellsN (val x)))) := by
    unfold msX turnM Ytedbbekfpficpaa.mat
    simp only [List.map_map]
    refine List.map_congr_left (fun j hj => ?_)
    unfold entX
    rw [if_neg (by omega), if_neg (by omega)]
    have h1 : part cellsN cellsZ (colM m r j) r = (colM m r j).map cellsN := by
      have := part_all cellsN cellsZ (colM m r j)
      rwa [colM_length] at this
    rw [h1]
    simp [colM, Function.comp_def, val, nu]
  rw [he] at hm
  obtain ⟨A, c', hv, _, hC⟩ := Mat.reads (d := nF) (fun x => cellsN (val x)) _ (fun r hr x hx w => by
    obtain ⟨r', _, rfl⟩ := List.mem_map.1 hr
    obtain ⟨n, _, rfl⟩ := List.mem_map.1 hx
    exact cellsN_K n w) hm
  injection hv with hA hn
  have hl : (turnM m r c).length = c := by simp [turnM, Ytedbbekfpficpaa.mat]
  rw [hA]
  rw [List.length_map, hl] at hC
  exact hC
end Go.Proofs.Ytedbbekfpficpaa
