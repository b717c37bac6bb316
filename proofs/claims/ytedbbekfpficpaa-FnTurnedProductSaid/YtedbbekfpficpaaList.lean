import Derived.Test.YtedbbekfpficpaaKinds
namespace Go.Proofs.Ytedbbekfpficpaa
open Go.RowKit Go.Proofs.YtedbbekfpficpaaW.PrintWords Fl
def pt (g : Nat) : Value := .pointer (some ⟨g, 0, none⟩)
set_option maxHeartbeats 400000 in
theorem lInit (g : Nat) (c0 c1 c2 c3 c4 : Value) (w : World) (hg : w.heap[g]? = some (.cells #[c0, c1, c2, c3, c4] 88 (0, 0))) :
    Calls Try.prog 41 #[.pointer (some ⟨g, 0, none⟩)] w fun e w' => e = .returned (.pointer (some ⟨g, 0, none⟩)) ∧ w' = ((w.setCell ⟨g, 0, none⟩ (.pointer (some ⟨g, 0, none⟩))).setCell ⟨g, 1, none⟩ (.pointer (some ⟨g, 0, none⟩))).setCell ⟨g, 4, none⟩ (.int .i64 0) := by
  have k0 : w.cell? ⟨g, 0, none⟩ = some c0 := blk_cell hg 0
  have k1 : w.cell? ⟨g, 1, none⟩ = some c1 := blk_cell hg 1
  have k4 : w.cell? ⟨g, 4, none⟩ = some c4 := blk_cell hg 4
  have f0 : w.frozen? ⟨g, 0, none⟩ = false := blk_frozen hg 0
  have f1 : w.frozen? ⟨g, 1, none⟩ = false := blk_frozen hg 1
  have f4 : w.frozen? ⟨g, 4, none⟩ = false := blk_frozen hg 4
  go_enter Try.func41, Try.ntmps41
  go_wp2
  go_ret
  exact ⟨rfl, rfl⟩

/-- The list's own block, and an element's. -/
def isL (w : World) (g : Nat) (a b : Nat) (n : Int) : Prop := w.heap[g]? = some (.cells #[pt a, pt b, .pointer none, .nilIface, .int .i64 n] 88 (0, 0))
def isE (w : World) (e : Nat) (nx pv l : Nat) (v : Value) : Prop := w.heap[e]? = some (.cells #[pt nx, pt pv, pt l, v] 72 (0, 0))
set_option maxHeartbeats 400000 in
theorem lNew (w : World) : Calls Try.prog 35 #[] w fun e w' => e = .returned (.pointer (some ⟨w.heap.size, 0, none⟩)) ∧ w' = w.alloc (.cells #[pt w.heap.size, pt w.heap.size, .pointer none, .nilIface, .int .i64 0] 88) := by
  go_enter Try.func35, Try.ntmps35
  go_wp2_with (go_at_call 41; refine (lInit _ _ _ _ _ _ _ (heap_alloc_new _ _)).mono ?_; rintro e w' ⟨rfl, rfl⟩)
  go_ret
  exact ⟨rfl, by simp [pt]⟩
/-- What is changed is in S, or new. -/
structure Chg (S : Nat → Prop) (w w' : World) : Prop where
  os : w'.os = w.os
  tape : w'.tape = w.tape
  output : w'.output = w.output
  size : w.heap.size ≤ w'.heap.size
  block : ∀ k, k < w.heap.size → ¬ S k → w'.heap[k]? = w.heap[k]?
theorem Chg.refl (S : Nat → Prop) (w : World) : Chg S w w := ⟨rfl, rfl, rfl, Nat.le_refl _, fun _ _ _ => rfl⟩
theorem Chg.set {S : Nat → Prop} {w w1 : World} (h : Chg S w w1) {p : Addr} (hp : S p.block) (u : Value) : Chg S w (w1.setCell p u) := by
  have hs : (w1.setCell p u).heap.size = w1.heap.size := by simp
  exact ⟨h.os, h.tape, h.output, by rw [hs]; exact h.size, fun k hk hn => (Below.heap_setCell w1 p u k (fun e => hn (e ▸ hp))).trans (h.block k hk hn)⟩
theorem Chg.of_below {S : Nat → Prop} {w w1 : World} (h : Below w.heap.size w w1) : Chg S w w1 := ⟨h.os, h.tape, h.output, h.size, fun k hk _ => h.block k hk⟩
theorem Chg.trans {S T : Nat → Prop} {w w1 w2 : World} (h : Chg S w w1) (k : Chg T w1 w2) (hST : ∀ i, T i → i < w.heap.size → S i) : Chg S w w2 :=
  ⟨k.os.trans h.os, k.tape.trans h.tape, k.output.trans h.output, Nat.le_trans h.size k.size, fun i hi hn => (k.block i (Nat.lt_of_lt_of_le hi h.size) (fun ht => hn (hST i ht hi))).trans (h.block i hi hn)⟩
theorem Chg.below {S : Nat → Prop} {B : Nat} {w0 w w1 : World} (h : Below B w0 w) (k : Chg S w w1) (hB : B ≤ w.heap.size) (hS : ∀ i, S i → B ≤ i) : Below B w0 w1 :=
  ⟨k.os.trans h.os, k.tape.trans h.tape, k.output.trans h.output, Nat.le_trans h.size k.size, fun i hi => (k.block i (Nat.lt_of_lt_of_le hi hB) (fun ht => by have := hS i ht; omega)).trans (h.block i hi)⟩
set_option maxHeartbeats 400000 in
/-- An element put behind the root of an empty list. -/
theorem lInsert0 (g e : Nat) (c0 c1 c2 v : Value) (w : World) (hg : isL w g g g 0) (he : w.heap[e]? = some (.cells #[c0, c1, c2, v] 72 (0, 0))) (hne : e ≠ g) :
    Calls Try.prog 49 #[.pointer (some ⟨g, 0, none⟩), .pointer (some ⟨e, 0, none⟩), .pointer (some ⟨g, 0, none⟩)] w fun r w' => r = .returned (.pointer (some ⟨e, 0, none⟩)) ∧ isL w' g e e 1 ∧ isE w' e g g g v ∧ Chg (fun k => k = g ∨ k = e) w w' := by
  unfold isL at hg
  have k0 : w.cell? ⟨g, 0, none⟩ = some (pt g) := blk_cell hg 0
  have k1 : w.cell? ⟨g, 1, none⟩ = some (pt g) := blk_cell hg 1
  have k4 : w.cell? ⟨g, 4, none⟩ = some (.int .i64 0) := blk_cell hg 4
  have f0 : w.frozen? ⟨g, 0, none⟩ = false := blk_frozen hg 0
  have f1 : w.frozen? ⟨g, 1, none⟩ = false := blk_frozen hg 1
  have f4 : w.frozen? ⟨g, 4, none⟩ = false := blk_frozen hg 4
  have j0 : w.cell? ⟨e, 0, none⟩ = some c0 := blk_cell he 0
  have j1 : w.cell? ⟨e, 1, none⟩ = some c1 := blk_cell he 1
  have j2 : w.cell? ⟨e, 2, none⟩ = some c2 := blk_cell he 2
  have q0 : w.frozen? ⟨e, 0, none⟩ = false := blk_frozen he 0
  have q1 : w.frozen? ⟨e, 1, none⟩ = false := blk_frozen he 1
  have q2 : w.frozen? ⟨e, 2, none⟩ = false := blk_frozen he 2
  have hne' : g ≠ e := Ne.symm hne
  unfold pt at k0 k1
  go_enter Try.func49, Try.ntmps49
  go_wp2
  go_ret
  refine ⟨rfl, ?_, ?_, ?_⟩
  · have h1 := blk_far (p := ⟨e, 1, none⟩) hg hne' (pt g)
    have h2 := blk_far (p := ⟨e, 0, none⟩) h1 hne' (pt g)
    have h3 := blk_set h2 0 (pt e)
    have h4 := blk_set h3 1 (pt e)
    have h5 := blk_far (p := ⟨e, 2, none⟩) h4 hne' (pt g)
    have h6 := blk_set h5 4 (.int .i64 1)
    simpa [isL, pt] using h6
  · have h1 := blk_set he 1 (pt g)
    have h2 := blk_set h1 0 (pt g)
    have h3 := blk_far (p := ⟨g, 0, none⟩) h2 hne (pt e)
    have h4 := blk_far (p := ⟨g, 1, none⟩) h3 hne (pt e)
    have h5 := blk_set h4 2 (pt g)
    have h6 := blk_far (p := ⟨g, 4, none⟩) h5 hne (.int .i64 1)
    simpa [isE, pt] using h6
  · exact Chg.set (Chg.set (Chg.set (Chg.set (Chg.set (Chg.set (Chg.refl _ w) (.inr rfl) _) (.inr rfl) _) (.inl rfl) _) (.inl rfl) _) (.inr rfl) _) (.inl rfl) _
set_option maxHeartbeats 400000 in
/-- An element put behind the one that is there. -/
theorem lInsert1 (g a e : Nat) (c0 c1 c2 v u : Value) (w : World) (hg : isL w g a a 1) (ha : isE w a g g g u) (he : w.heap[e]? = some (.cells #[c0, c1, c2, v] 72 (0, 0))) (hne : e ≠ g) (hea : e ≠ a) (hga : g ≠ a) :
    Calls Try.prog 49 #[.pointer (some ⟨g, 0, none⟩), .pointer (some ⟨e, 0, none⟩), .pointer (some ⟨a, 0, none⟩)] w fun r w' => r = .returned (.pointer (some ⟨e, 0, none⟩)) ∧ isL w' g a e 2 ∧ isE w' a e g g u ∧ isE w' e g a g v ∧ Chg (fun k => k = g ∨ k = e ∨ k = a) w w' := by
  unfold isL at hg
  unfold isE at ha
  have k0 : w.cell? ⟨g, 0, none⟩ = some (pt a) := blk_cell hg 0
  have k1 : w.cell? ⟨g, 1, none⟩ = some (pt a) := blk_cell hg 1
  have k4 : w.cell? ⟨g, 4, none⟩ = some (.int .i64 1) := blk_cell hg 4
  have f0 : w.frozen? ⟨g, 0, none⟩ = false := blk_frozen hg 0
  have f1 : w.frozen? ⟨g, 1, none⟩ = false := blk_frozen hg 1
  have f4 : w.frozen? ⟨g, 4, none⟩ = false := blk_frozen hg 4
  have l0 : w.cell? ⟨a, 0, none⟩ = some (pt g) := blk_cell ha 0
  have l1 : w.cell? ⟨a, 1, none⟩ = some (pt g) := blk_cell ha 1
  have r0 : w.frozen? ⟨a, 0, none⟩ = false := blk_frozen ha 0
  have r1 : w.frozen? ⟨a, 1, none⟩ = false := blk_frozen ha 1
  have j0 : w.cell? ⟨e, 0, none⟩ = some c0 := blk_cell he 0
  have j1 : w.cell? ⟨e, 1, none⟩ = some c1 := blk_cell he 1
  have j2 : w.cell? ⟨e, 2, none⟩ = some c2 := blk_cell he 2
  have q0 : w.frozen? ⟨e, 0, none⟩ = false := blk_frozen he 0
  have q1 : w.frozen? ⟨e, 1, none⟩ = false := blk_frozen he 1
  have q2 : w.frozen? ⟨e, 2, none⟩ = false := blk_frozen he 2
  have hne' : g ≠ e := Ne.symm hne
  have hea' : a ≠ e := Ne.symm hea
  have hga' : a ≠ g := Ne.symm hga
  unfold pt at k0 k1 l0 l1
  go_enter Try.func49, Try.ntmps49
  go_wp2
  go_ret
  refine ⟨rfl, ?_, ?_, ?_, ?_⟩
  · have h1 := blk_far (p := ⟨e, 1, none⟩) hg hne' (pt a)
    have h2 := blk_far (p := ⟨e, 0, none⟩) h1 hne' (pt g)
    have h3 := blk_far (p := ⟨a, 0, none⟩) h2 hga (pt e)
    have h4 := blk_set h3 1 (pt e)
    have h5 := blk_far (p := ⟨e, 2, none⟩) h4 hne' (pt g)
    have h6 := blk_set h5 4 (.int .i64 2)
    simpa [isL, pt] using h6
  · have h1 := blk_far (p := ⟨e, 1, none⟩) ha hea' (pt a)
    have h2 := blk_far (p := ⟨e, 0, none⟩) h1 hea' (pt g)
    have h3 := blk_set h2 0 (pt e)
    have h4 := blk_far (p := ⟨g, 1, none⟩) h3 hga' (pt e)
    have h5 := blk_far (p := ⟨e, 2, none⟩) h4 hea' (pt g)
    have h6 := blk_far (p := ⟨g, 4, none⟩) h5 hga' (.int .i64 2)
    simpa [isE, pt] using h6
  · have h1 := blk_set he 1 (pt a)
    have h2 := blk_set h1 0 (pt g)
    have h3 := blk_far (p := ⟨a, 0, none⟩) h2 hea (pt e)
    have h4 := blk_far (p := ⟨g, 1, none⟩) h3 hne (pt e)
    have h5 := blk_set h4 2 (pt g)
    have h6 := blk_far (p := ⟨g, 4, none⟩) h5 hne (.int .i64 2)
    simpa [isE, pt] using h6
  · exact Chg.set (Chg.set (Chg.set (Chg.set (Chg.set (Chg.set (Chg.refl _ w) (.inr (.inl rfl)) _) (.inr (.inl rfl)) _) (.inr (.inr rfl)) _) (.inl rfl) _) (.inr (.inl rfl)) _) (.inl rfl) _
set_option maxHeartbeats 400000 in
theorem lInsV0 {T : Nat} (g : Nat) (u : Value) (w : World) (hg : isL w g g g 0) :
    Calls Try.prog 43 #[.pointer (some ⟨g, 0, none⟩), .iface T u, .pointer (some ⟨g, 0, none⟩)] w fun r w' => (∃ e, r = .returned (.pointer (some ⟨e, 0, none⟩)) ∧ w.heap.size ≤ e ∧ isL w' g e e 1 ∧ isE w' e g g g (.iface T u)) ∧ Chg (fun k => k = g) w w' := by
  have hlt := blk_lt hg
  go_enter Try.func43, Try.ntmps43
  go_wp2_with (go_at_call 49; refine (lInsert0 g w.heap.size _ _ _ (.iface T u) _ ?_ (heap_alloc_new _ _) (by omega)).mono ?_; (case _ => exact blk_alloc hg _); rintro r w' ⟨rfl, h1, h2, h3⟩)
  go_ret
  refine ⟨⟨_, rfl, Nat.le_refl _, h1, h2⟩, Chg.trans (Chg.of_below ((Below.refl _ _).alloc (Nat.le_refl _) _)) h3 (fun i hi hl => by rcases hi with rfl | rfl; rfl; omega)⟩
set_option maxHeartbeats 400000 in
theorem lInsV1 {T : Nat} (g a : Nat) (u y : Value) (w : World) (hg : isL w g a a 1) (ha : isE w a g g g y) :
    Calls Try.prog 43 #[.pointer (some ⟨g, 0, none⟩), .iface T u, .pointer (some ⟨a, 0, none⟩)] w fun r w' => (∃ e, r = .returned (.pointer (some ⟨e, 0, none⟩)) ∧ w.heap.size ≤ e ∧ isL w' g a e 2 ∧ isE w' a e g g y ∧ isE w' e g a g (.iface T u)) ∧ Chg (fun k => k = g ∨ k = a) w w' := by
  have hlt := blk_lt hg
  have hla := blk_lt ha
  have hga : g ≠ a := blk_ne hg ha (by decide)
  go_enter Try.func43, Try.ntmps43
  go_wp2_with (go_at_call 49; refine (lInsert1 g a w.heap.size _ _ _ (.iface T u) y _ ?_ ?_ (heap_alloc_new _ _) (by omega) (by omega) hga).mono ?_; (case _ => exact blk_alloc hg _); (case _ => exact blk_alloc ha _); rintro r w' ⟨rfl, h1, h2, h3, h4⟩)
  go_ret
  refine ⟨⟨_, rfl, Nat.le_refl _, h1, h2, h3⟩, Chg.trans (Chg.of_below ((Below.refl _ _).alloc (Nat.le_refl _) _)) h4 (fun i hi hl => by rcases hi with rfl | rfl | rfl; exact .inl rfl; omega; exact .inr rfl)⟩
set_option maxHeartbeats 400000 in
theorem lLazy (g a b : Nat) (n : Int) (w : World) (hg : isL w g a b n) :
    Calls Try.prog 42 #[.pointer (some ⟨g, 0, none⟩)] w fun r w' => r = .returned (.tuple #[]) ∧ w' = w := by
  have k0 : w.cell? ⟨g, 0, none⟩ = some (pt a) := blk_cell hg 0
  unfold pt at k0
  go_enter Try.func42, Try.ntmps42
  go_wp2
  go_end0
  exact ⟨rfl, rfl⟩
set_option maxHeartbeats 400000 in
theorem lPush0 {T : Nat} (g : Nat) (u : Value) (w : World) (hg : isL w g g g 0) :
    Calls Try.prog 36 #[.pointer (some ⟨g, 0, none⟩), .iface T u] w fun r w' => (∃ e, r = .returned (.pointer (some ⟨e, 0, none⟩)) ∧ w.heap.size ≤ e ∧ isL w' g e e 1 ∧ isE w' e g g g (.iface T u)) ∧ Chg (fun k => k = g) w w' := by
  have k1 : w.cell? ⟨g, 1, none⟩ = some (pt g) := blk_cell hg 1
  unfold pt at k1
  go_enter Try.func36, Try.ntmps36
  go_wp2_with (first | (go_at_call 42; refine (lLazy _ _ _ _ _ hg).mono ?_; rintro r w' ⟨rfl, rfl⟩) | (go_at_call 43; refine (lInsV0 g u _ hg).mono ?_; rintro r w' ⟨⟨e, rfl, h0, h1, h2⟩, h3⟩))
  go_ret
  exact ⟨⟨e, rfl, h0, h1, h2⟩, h3⟩
set_option maxHeartbeats 400000 in
theorem lPush1 {T : Nat} (g a : Nat) (u y : Value) (w : World) (hg : isL w g a a 1) (ha : isE w a g g g y) :
    Calls Try.prog 36 #[.pointer (some ⟨g, 0, none⟩), .iface T u] w fun r w' => (∃ e, r = .returned (.pointer (some ⟨e, 0, none⟩)) ∧ w.heap.size ≤ e ∧ isL w' g a e 2 ∧ isE w' a e g g y ∧ isE w' e g a g (.iface T u)) ∧ Chg (fun k => k = g ∨ k = a) w w' := by
  have k1 : w.cell? ⟨g, 1, none⟩ = some (pt a) := blk_cell hg 1
  unfold pt at k1
  go_enter Try.func36, Try.ntmps36
  go_wp2_with (first | (go_at_call 42; refine (lLazy _ _ _ _ _ hg).mono ?_; rintro r w' ⟨rfl, rfl⟩) | (go_at_call 43; refine (lInsV1 g a u y _ hg ha).mono ?_; rintro r w' ⟨⟨e, rfl, h0, h1, h2, h4⟩, h3⟩))
  go_ret
  exact ⟨⟨e, rfl, h0, h1, h2, h4⟩, h3⟩
set_option maxHeartbeats 400000 in
theorem lLen (g a b : Nat) (n : Int) (w : World) (hg : isL w g a b n) :
    Calls Try.prog 27 #[.pointer (some ⟨g, 0, none⟩)] w fun r w' => r = .returned (.int .i64 n) ∧ w' = w := by
  have k4 : w.cell? ⟨g, 4, none⟩ = some (.int .i64 n) := blk_cell hg 4
  go_enter Try.func27, Try.ntmps27
  go_wp2
  go_ret
  exact ⟨rfl, rfl⟩
set_option maxHeartbeats 400000 in
theorem lFront (g a b : Nat) (n : Int) (hn : n ≠ 0) (w : World) (hg : isL w g a b n) :
    Calls Try.prog 29 #[.pointer (some ⟨g, 0, none⟩)] w fun r w' => r = .returned (.pointer (some ⟨a, 0, none⟩)) ∧ w' = w := by
  have k4 : w.cell? ⟨g, 4, none⟩ = some (.int .i64 n) := blk_cell hg 4
  have k0 : w.cell? ⟨g, 0, none⟩ = some (pt a) := blk_cell hg 0
  unfold pt at k0
  go_enter Try.func29, Try.ntmps29
  go_wp2
  go_ret
  exact ⟨rfl, rfl⟩
set_option maxHeartbeats 400000 in
theorem lBack (g a b : Nat) (n : Int) (hn : n ≠ 0) (w : World) (hg : isL w g a b n) :
    Calls Try.prog 30 #[.pointer (some ⟨g, 0, none⟩)] w fun r w' => r = .returned (.pointer (some ⟨b, 0, none⟩)) ∧ w' = w := by
  have k4 : w.cell? ⟨g, 4, none⟩ = some (.int .i64 n) := blk_cell hg 4
  have k1 : w.cell? ⟨g, 1, none⟩ = some (pt b) := blk_cell hg 1
  unfold pt at k1
  go_enter Try.func30, Try.ntmps30
  go_wp2
  go_ret
  exact ⟨rfl, rfl⟩
end Go.Proofs.Ytedbbekfpficpaa
