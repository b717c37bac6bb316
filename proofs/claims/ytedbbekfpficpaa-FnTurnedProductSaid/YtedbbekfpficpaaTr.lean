import Derived.Test.YtedbbekfpficpaaMx
set_option linter.unusedSimpArgs false
set_option linter.unusedVariables false
namespace Go.Proofs.Ytedbbekfpficpaa
open Go.RowKit Go.Proofs.YtedbbekfpficpaaW.PrintWords Go.Proofs.YtedbbekfpficpaaW.PrintLast Fl
def dS (g c cap : Nat) : Kd Nat := Kd.scalar (fun k => .slice (some ⟨g, k * c * 10, none⟩) c (cap - k * c)) (fun _ => rfl)
theorem make0 (w : World) : (Instr.makeSlice 54 (.int .i64 0) (.int .i64 0)).run Try.prog w = .ok (.slice (some ⟨w.heap.size, 0, none⟩) 0 0) (w.alloc (.cells #[] 53)) := by kernel_rfl
theorem minMaxF (g e : Nat) (A : Option Addr) (n c ga gb eb cols rows : Nat) (h0 : 0 < (rows : Int)) (w : World) (h : Arg1 w g e A n c ga gb eb cols rows) :
    Calls Try.prog 39 #[.bool false, .pointer (some ⟨g, 0, none⟩)] w fun r w' => r = .returned (.tuple #[.int .i64 1, .int .i64 rows]) ∧ Below w.heap.size w w' := minMax false g e A n c ga gb eb cols rows rows (by simp) h0 w h
theorem minMaxT (g e : Nat) (A : Option Addr) (n c ga gb eb cols rows : Nat) (h0 : 0 < (cols : Int)) (w : World) (h : Arg1 w g e A n c ga gb eb cols rows) :
    Calls Try.prog 39 #[.bool true, .pointer (some ⟨g, 0, none⟩)] w fun r w' => r = .returned (.tuple #[.int .i64 1, .int .i64 cols]) ∧ Below w.heap.size w w' := minMax true g e A n c ga gb eb cols rows cols (by simp) h0 w h
theorem add_off (g o k : Nat) : (⟨g, o, none⟩ : Addr).add k = ⟨g, o + k, none⟩ := by
  unfold Addr.add
  split <;> simp_all
theorem flat_get {m : List (List Int)} {r c : Nat} (h : Sized m r c) (i j : Nat) (hi : i < r) (hj : j < c) : m.flatten.getD (i * c + j) 0 = ent m i j := by
  induction m generalizing r i with
  | nil => have := h.1; simp at this; omega
  | cons a m ih =>
    have ha : a.length = c := h.2 a List.mem_cons_self
    cases i with
    | zero =>
      rw [Nat.zero_mul, Nat.zero_add, List.flatten_cons, List.getD_eq_getElem?_getD, List.getElem?_append_left (by omega)]
      simp [ent]
    | succ i =>
      have h' : Sized m (r - 1) c := ⟨by have := h.1; simp at this; omega, fun x hx => h.2 x (List.mem_cons_of_mem _ hx)⟩
      have := ih h' i (by omega)
      have e : (i + 1) * c + j = a.length + (i * c + j) := by rw [Nat.succ_mul, ha]; omega
      rw [List.flatten_cons, List.getD_eq_getElem?_getD, e, List.getElem?_append_right (Nat.le_add_right _ _), Nat.add_sub_cancel_left, ← List.getD_eq_getElem?_getD, this]
      simp [ent]
attribute [local go_sem] run_store_float run_assert58 make0
set_option maxHeartbeats 2000000 in
set_option maxRecDepth 100000 in
theorem transpose (m : List (List Int)) (r c : Nat) (hr : 1 ≤ r ∧ r ≤ 100) (hc : 1 ≤ c ∧ c ≤ 100) (hs : Sized m r c) (f : Value) (g e : Nat) (A : Option Addr) (c0 ga gb eb : Nat) (w : World) (h : Arg1 w g e A m.length c0 ga gb eb c r) (hC : (Kd.slice 58 dN).C w A m.length m) :
    Calls Try.prog 25 #[f, .pointer (some ⟨g, 0, none⟩)] w fun x w' => ∃ cs, x = .returned (.agg cs.toArray) ∧ tF.K w' (ta (turnM m r c)) cs ∧ Below w.heap.size w w' := by
  have HF := Aside0.mk (h.below ((Below.refl w.heap.size w).alloc (Nat.le_refl _) (Obj.cells #[.string ⟨#[]⟩, .float .f64 0, .string ⟨#[]⟩, .slice none 0 0, .slice none 0 0, .bool false, .string ⟨#[]⟩, .int .u8 0, .pointer none, .pointer none] 58)))
  have ke := HF.out.ke
  have HC := Aside0.mk hC
  have HS := Aside0.mk hs
  have hr' := Aside0.mk hr
  have hc' := Aside0.mk hc
  have hm := Aside0.mk (show m.length = r from hs.1)
  have hrI : (r : Int) ≤ 100 := by omega
  have hcI : (c : Int) ≤ 100 := by omega
  have hr1 : (1 : Int) ≤ (r : Int) := by omega
  have hc1 : (1 : Int) ≤ (c : Int) := by omega
  have hp1 := Aside0.mk (show (0 : Int) < (r : Int) by omega)
  have hp2 := Aside0.mk (show (0 : Int) < (c : Int) by omega)
  clear h hC hs hr hc
  obtain ⟨nn, hnn⟩ : ∃ nn, Aside0 (nn = r * c) := ⟨_, ⟨rfl⟩⟩
  have hfl := Aside0.mk (show m.flatten.length = nn by
    have := flat_len HS.out r (Nat.le_refl _)
    rw [List.take_of_length_le (by rw [hm.out]; exact Nat.le_refl _)] at this
    rw [hnn.out]; exact this)
  have hpos := Aside0.mk (show 0 < nn by rw [hnn.out]; exact Nat.mul_pos (by have := hr'.out; omega) (by have := hc'.out; omega))
  go_enter Try.func25, Try.ntmps25
  go_wp2_with (first
    | (go_at_call 27; with_reducible refine (lLen g e e 1 _ HF.out.l).mono ?_; rintro x w' ⟨rfl, rfl⟩)
    | (go_at_call 30; with_reducible refine (lBack g e e 1 one_ne _ HF.out.l).mono ?_; rintro x w' ⟨rfl, rfl⟩)
    | (go_at_call 38; refine (toList_ m r c HS.out hr'.out.2 hc'.out.2 A c0 _ _ _ (Kd.C_below HC.out ((Below.refl _ _).alloc (Nat.le_refl _) _))).mono ?_; rintro x w1 ⟨v5, rfl, hR5, hb1⟩
       have HF := Aside0.mk (HF.out.below hb1)
       have hRz := Aside0.mk (blk_below (g := w.heap.size) (heap_alloc_new w _) hb1)
       have hz1 := Aside0.mk (show w.heap.size + 1 ≤ w1.heap.size by have := hb1.size; simp at this; omega)
       have HB := Aside0.mk (below_then ((Below.refl w.heap.size w).alloc (Nat.le_refl _) _) (by simp) hb1)
       obtain ⟨g5, cap5, rfl, hg5, hg5', hcells5⟩ := Kd.R_form hR5 (by rw [hfl.out]; exact hpos.out)
       have h5 := Kd.R_reads' hR5
       rw [hfl.out] at h5 ⊢
       have hle5 : nn ≤ cap5 := h5.2.1
       have HC5 := Aside0.mk h5.2.2
       have hg5 := Aside0.mk hg5
       clear hR5 hb1 h5 hcells5 hg5' ke)
    | (go_at_call 39; with_reducible refine (minMaxF g e A m.length c0 ga gb eb c r hp1.out _ HF.out).mono ?_; rintro x w2 ⟨rfl, hb2⟩
       have HF := Aside0.mk (HF.out.below hb2); have HB := Aside0.mk (below_step HB.out hb2); have hRz := Aside0.mk (blk_below hRz.out hb2); have HC5 := Aside0.mk (Kd.C_below HC5.out hb2); have hz1 := Aside0.mk (Nat.le_trans hz1.out hb2.size); have hg5l := Aside0.mk trivial; clear hb2)
    | (go_at_call 39; with_reducible refine (minMaxT g e A m.length c0 ga gb eb c r hp2.out _ HF.out).mono ?_; rintro x w3 ⟨rfl, hb3⟩
       have HF := Aside0.mk (HF.out.below hb3); have HB := Aside0.mk (below_step HB.out hb3); have hRz := Aside0.mk (blk_below hRz.out hb3); have HC5 := Aside0.mk (Kd.C_below HC5.out hb3); have hz1 := Aside0.mk (Nat.le_trans hz1.out hb3.size); clear hb3))
  have hR0 : (dS g5 c cap5).R 53 (w3.alloc (Obj.cells #[] 53)) w3.heap.size (fun _ => True) (.slice (some ⟨w3.heap.size, 0, none⟩) 0 0) [] := Kd.R_of_own (xs := []) (own_of_full (heap_alloc_new _ _) (Nat.le_refl _) rfl (by simp [maxLen])) (fun _ _ => trivial)
  have hR0 := Aside0.mk hR0
  have hb4 := Aside0.mk (show Below w3.heap.size w3 (w3.alloc (Obj.cells #[] 53)) from (Below.refl _ _).alloc (Nat.le_refl _) _)
  have hleI : (nn : Int) ≤ (cap5 : Int) := by omega
  have hnnI : nn ≤ 10000 := by rw [hnn.out]; exact Nat.mul_le_mul hr'.out.2 hc'.out.2
  go_loopg [12, 13] r (fun kq v12 v13 w' => ∃ (k q : Nat), v13 = .int .i64 q ∧ Aside0 (q = k * c) ∧ Aside0 (k + kq = r) ∧ Aside0 ((dS g5 c cap5).R 53 w' w3.heap.size (fun _ => True) v12 (List.range k)) ∧ Aside0 (Below w3.heap.size w3 w'))
  case atStart => exact ⟨0, 0, rfl, ⟨by simp⟩, ⟨by simp⟩, hR0, hb4⟩
  case round =>
    clear hR0 hb4
    obtain ⟨k, q, rfl, hq, HK, HO, HBs⟩ := hrel
    by_cases hk : k < r
    · have hqc : q + c ≤ nn := by
        rw [hq.out, hnn.out, ← Nat.succ_mul]
        exact Nat.mul_le_mul_right _ hk
      have d0 : decide ((q : Int) < (nn : Int)) = true := decide_eq_true (by have := hc'.out; omega)
      have q1 : (0 : Int) ≤ (q : Int) := by omega
      have q2 : (q : Int) ≤ 10000 := by omega
      have q3 : (0 : Int) ≤ (q : Int) + (c : Int) := by omega
      have q4 : (q : Int) + (c : Int) ≤ (cap5 : Int) := by omega
      have q5 : (q : Int) ≤ (q : Int) + (c : Int) := by omega
      go_wp2_with (first
        | ((with_reducible refine gate_builtin (b := .append) (xs := #[.tmp 58, .tmp 65]) rfl ?_); at_builtin
           go_loud (refine appendMade (dS g5 c cap5) (w0 := w3) (wr := wr) (B := w3.heap.size) rfl (.tmp 58) (.tmp 65) 54 53 _ 24 rfl Try.underlying54 info53 rfl (show 0 < 1 by decide) (by decide) u12 (List.range k) k [.slice (some ⟨g5, q * 10, none⟩) c (cap5 - q)] (fun _ => True) rfl rfl ?aM HO.out HBs.out HBs.out.size (Below.refl _ _) (fun _ _ => trivial) ?aL ?_)
           (case aM => show [_] = [_]; rw [hq.out])
           (case aL => have := hr'.out; rw [List.length_range]; omega)
           intro v1 w5 ho hb hg hat; have ho := Aside0.mk ho; have hb := Aside0.mk hb; clear hg hat))
      go_roundg (gk - 1)
      case measure => have := HK.out; omega
      case rel => exact ⟨k + 1, q + c, by simp, ⟨by rw [hq.out, Nat.succ_mul]⟩, ⟨by have := HK.out; omega⟩, ⟨by have := ho.out; rw [List.range_succ]; exact this⟩, hb⟩
    · have hkr : k = r := by have := HK.out; omega
      have d0 : decide ((q : Int) < (nn : Int)) = false := decide_eq_false (by rw [hq.out, hnn.out, hkr]; omega)
      have d9 : ¬ q < nn := by rw [hq.out, hnn.out, hkr]; omega
      rw [hkr] at HO
      obtain ⟨Asrc, csrc, rfl, hlsrc, hCsrc⟩ := Kd.R_reads HO.out
      rw [List.length_range] at hCsrc ⊢
      have hCsrc := Aside0.mk hCsrc
      have hmk := run_makeN (P := Try.prog) 54 53 _ 1 24 Try.underlying54 info53 (by decide) c (by omega)
      clear hlsrc hkr
      have HC5 := Aside0.mk (Kd.C_below HC5.out HBs.out)
      have hRz := Aside0.mk (blk_below hRz.out HBs.out)
      have HB := Aside0.mk (below_step HB.out HBs.out)
      have hz1 := Aside0.mk (Nat.le_trans hz1.out HBs.out.size)
      obtain ⟨adS, cS, rfl, _⟩ := Kd.C_get hCsrc.out 0 0 (by omega) (by have := hr'.out; omega)
      clear HF HO HBs HC HK hleI
      go_wp2
      clear hmk d0 d9
      obtain ⟨wS, rfl⟩ : ∃ wS : World, wS = wr := ⟨_, rfl⟩
      obtain ⟨hh, hhh⟩ : ∃ hh, Aside0 (hh = wS.heap.size) := ⟨_, ⟨rfl⟩⟩
      have hM0 := Aside0.mk (show Mx (wS.alloc (Obj.cells (madeCells #[Value.slice none 0 0] c) 53)) hh hh m r c 0 0 (List.replicate c (.slice none 0 0)) from Mx.start (by rw [hhh.out]; exact heap_alloc_new _ _) (Nat.le_refl _) hc'.out.2)
      have hB0 := Aside0.mk (show Below hh wS (wS.alloc (Obj.cells (madeCells #[Value.slice none 0 0] c) 53)) by rw [hhh.out]; exact (Below.refl _ _).alloc (Nat.le_refl _) _)
      rw [← hhh.out]
      have r0 : ((r : Int) == 0) = false := by simp; omega
      have r0' : ¬ ((r : Int) = 0) := by omega
      have c0' : ¬ ((c : Int) = 0) := by omega
      go_loopg [71] r (fun kq v71 w' => ∃ (i : Nat) (vals : List Value), v71 = .int .i64 i ∧ Aside0 (i + kq = r) ∧ Aside0 (Mx w' hh hh m r c i 0 vals) ∧ Aside0 (Below hh wS w'))
      case atStart => exact ⟨0, _, rfl, ⟨by omega⟩, hM0, hB0⟩
      case round =>
        clear hM0 hB0
        obtain ⟨i, vals, rfl, HKi, HMi, HBi⟩ := hrel
        obtain ⟨gi, hgi⟩ : ∃ gi : Nat, Aside0 (gi = gk) := ⟨_, ⟨rfl⟩⟩
        by_cases hi : i < r
        · have d1 : decide ((i : Int) < (r : Int)) = true := decide_eq_true (by omega)
          have i1 : (0 : Int) ≤ (i : Int) := by omega
          have i2 : (i : Int) < (r : Int) := by omega
          have hrem1 : (i : Int).tmod (r : Int) = (i : Int) := Int.tmod_eq_of_lt i1 i2
          obtain ⟨qi, hqi⟩ : ∃ qi, Aside0 (qi = i * c) := ⟨_, ⟨rfl⟩⟩
          obtain ⟨adS', cS, hAS, _, hKS, hcS⟩ := Kd.C_get hCsrc.out 0 (i : Int) i1 i2
          obtain rfl : adS = adS' := by injection hAS
          have hgd : (List.range r).getD (i : Int).toNat 0 = i := by simp [List.getD_eq_getElem?_getD, hi]
          rw [hgd] at hKS
          obtain rfl : cS = [.slice (some ⟨g5, i * c * 10, none⟩) c (cap5 - i * c)] := hKS
          have gs : wr.cell? (adS.add i) = some (.slice (some ⟨g5, qi * 10, none⟩) c (cap5 - qi)) := pw_cell_below (by rw [← hhh.out]; exact HBi.out) (by rw [hqi.out]; simpa [dS, Kd.scalar] using hcS 0 _ rfl)
          clear hcS hgd hAS
          go_wp2
          go_loopg [81] c (fun kq v81 w' => ∃ (j : Nat) (vals : List Value), v81 = .int .i64 j ∧ Aside0 (j + kq = c) ∧ Aside0 (Mx w' hh hh m r c i j vals) ∧ Aside0 (Below hh wS w'))
          case atStart => exact ⟨0, _, rfl, ⟨by omega⟩, HMi, HBi⟩
          case round =>
            clear HMi HBi gs
            obtain ⟨j, vals, rfl, HKj, HMj, HBj⟩ := hrel
            by_cases hj : j < c
            · have d2 : decide ((j : Int) < (c : Int)) = true := decide_eq_true (by omega)
              have j1 : (0 : Int) ≤ (j : Int) := by omega
              have j2 : (j : Int) < (c : Int) := by omega
              have hrem2 : (j : Int).tmod (c : Int) = (j : Int) := Int.tmod_eq_of_lt j1 j2
              have hqn : qi + j < nn := by
                have h1 : (i + 1) * c ≤ r * c := Nat.mul_le_mul_right _ hi
                rw [Nat.succ_mul] at h1
                rw [hqi.out, hnn.out]; omega
              obtain ⟨x, hx⟩ : ∃ x, Aside0 (x = ent m i j) := ⟨_, ⟨rfl⟩⟩
              obtain ⟨ad5, c5, hA5, _, hK5, hc5⟩ := Kd.C_get (Kd.C_below HC5.out (show Below wS.heap.size wS wr by rw [← hhh.out]; exact HBj.out)) 0 ((qi + j : Nat) : Int) (by omega) (by omega)
              obtain rfl : ad5 = ⟨g5, 0, none⟩ := by injection hA5 with h; exact h.symm
              rw [Int.toNat_natCast] at hK5 hc5
              rw [show m.flatten.getD (qi + j) 0 = x by rw [hqi.out, hx.out]; exact flat_get HS.out i j hi hj] at hK5
              obtain rfl : c5 = cellsN x := hK5
              have hcell := Aside0.mk (show ∀ q u, [Value.string ⟨#[]⟩, fl x, .string ⟨#[]⟩, .slice none 0 0, .slice none 0 0, .bool false, .string ⟨#[]⟩, .int .u8 1, .pointer none, .pointer none][q]? = some u → wr.cell? ((⟨g5, qi * 10 + j * 10, none⟩ : Addr).add (0 + q)) = some u from fun q u hu => by
                have := hc5 q u hu
                rw [add_off] at this ⊢
                rw [← this, show qi * 10 + j * 10 + (0 + q) = 0 + ((qi + j) * dN.sz + q) by show _ = 0 + ((qi + j) * 10 + q); omega])
              obtain ⟨T, hT⟩ : ∃ T, Aside0 (T = Obj.cells #[.string ⟨#[]⟩, fl x, .string ⟨#[]⟩, .slice none 0 0, .slice none 0 0, .bool false, .string ⟨#[]⟩, .int .u8 1, .pointer none, .pointer none] 58) := ⟨_, ⟨rfl⟩⟩
              have hfull := HMj.out.full.1
              have hfz : ∀ o o', ((wr.alloc o).alloc o').frozen? ⟨hh, j, none⟩ = false := fun o o' => blk_frozen (blk_alloc (blk_alloc hfull o) o') j
              have hlt := blk_lt hfull
              clear hc5 hA5
              rcases Nat.eq_zero_or_pos i with hi0 | hi0
              · obtain ⟨y, hy⟩ : ∃ y, vals[j]? = some y := ⟨_, List.getElem?_eq_getElem (by rw [HMj.out.len]; exact hj)⟩
                obtain rfl := HMj.out.bare j y hy (by omega)
                have kx : ∀ o, (wr.alloc o).cell? ⟨hh, j, none⟩ = some (.slice none 0 0) := fun o => (blk_cell (blk_alloc hfull o) j).trans (by simpa using hy)
                have kx2 : ∀ o o', ((wr.alloc o).alloc o').cell? ⟨hh, j, none⟩ = some (.slice none 0 0) := fun o o' => (blk_cell (blk_alloc (blk_alloc hfull o) o') j).trans (by simpa using hy)
                have hmk2 := run_makeN (P := Try.prog) 53 58 _ 10 136 Try.underlying53 info58 (by decide) r (by omega)
                replace hi0 := Aside0.mk hi0
                replace hfull := Aside0.mk hfull
                go_wp2_with (refine wpList_loadEl rfl 58 (.tmp 84) rfl ⟨g5, qi * 10 + j * 10, none⟩ 0 rfl [Value.string ⟨#[]⟩, fl x, .string ⟨#[]⟩, .slice none 0 0, .slice none 0 0, .bool false, .string ⟨#[]⟩, .int .u8 1, .pointer none, .pointer none] _ hcell.out Try.underlying58 rfl (by kernel_rfl) ?_)
                obtain ⟨gx, hgx⟩ : ∃ gx, Aside0 (gx = wr.heap.size + 1) := ⟨_, ⟨rfl⟩⟩
                rw [← hgx.out]
                obtain ⟨gt, hgt⟩ : ∃ gt, Aside0 (gt = wr.heap.size) := ⟨_, ⟨rfl⟩⟩
                rw [← hgt.out]
                obtain ⟨wA, hwA⟩ : ∃ wA, Aside0 (wA = ((wr.setCell ⟨hh, j, none⟩ (.slice (some ⟨gx, 0, none⟩) r r)).alloc (Obj.cells #[.string ⟨#[]⟩, .float .f64 (F x), .string ⟨#[]⟩, .slice none 0 0, .slice none 0 0, .bool false, .string ⟨#[]⟩, .int .u8 1, .pointer none, .pointer none] 58)).alloc (Obj.cells (madeCells #[.string ⟨#[]⟩, .float .f64 0, .string ⟨#[]⟩, .slice none 0 0, .slice none 0 0, .bool false, .string ⟨#[]⟩, .int .u8 0, .pointer none, .pointer none] (r * 10)) 58)) := ⟨_, ⟨rfl⟩⟩
                rw [← hwA.out]
                have hT := Aside0.mk (show wA.heap[gt]? = some (.cells #[.string ⟨#[]⟩, .float .f64 (F x), .string ⟨#[]⟩, .slice none 0 0, .slice none 0 0, .bool false, .string ⟨#[]⟩, .int .u8 1, .pointer none, .pointer none] 58 (0, 0)) by rw [hwA.out, hgt.out]; exact blk_alloc (blk_at (by simp)) _)
                have hBA := Aside0.mk (show Below hh wS wA by rw [hwA.out]; exact ((HBj.out.setCell (Nat.le_refl _) _).alloc (by simp; omega) _).alloc (by simp; omega) _)
                have hRd := Aside0.mk (show Rd wA hh hh m r c i j gx (vals.set j (.slice (some ⟨gx, 0, none⟩) r r)) ((msX m r c 0 j).set j (some (part cellsN cellsZ (colM m r j) 0))) by
                  have HM0 : Mx wr hh hh m r c 0 j vals := by rw [← hi0.out]; exact HMj.out
                  rw [hi0.out]
                  refine HM0.fresh hj hr'.out.2 (by rw [hgx.out]; omega) (by rw [hgx.out]; omega) (fun b hb hne => ?_) ?_ ?_
                  · rw [hwA.out]
                    have h9 : Below wr.heap.size (wr.setCell ⟨hh, j, none⟩ (.slice (some ⟨gx, 0, none⟩) r r)) (((wr.setCell ⟨hh, j, none⟩ (.slice (some ⟨gx, 0, none⟩) r r)).alloc (Obj.cells #[.string ⟨#[]⟩, .float .f64 (F x), .string ⟨#[]⟩, .slice none 0 0, .slice none 0 0, .bool false, .string ⟨#[]⟩, .int .u8 1, .pointer none, .pointer none] 58)).alloc (Obj.cells (madeCells #[.string ⟨#[]⟩, .float .f64 0, .string ⟨#[]⟩, .slice none 0 0, .slice none 0 0, .bool false, .string ⟨#[]⟩, .int .u8 0, .pointer none, .pointer none] (r * 10)) 58)) := ((Below.refl _ _).alloc (by simp) _).alloc (by simp) _
                    exact (h9.block b hb).trans (Below.heap_setCell wr ⟨hh, j, none⟩ _ b hne)
                  · rw [hwA.out]
                    have := blk_set hfull.out j (.slice (some ⟨gx, 0, none⟩) r r)
                    exact blk_alloc (blk_alloc (by simpa using this) _) _
                  · rw [hwA.out, hgx.out]
                    exact blk_at (by simp))
                clear hwA hgx hgt hfull hfz kx kx2 hmk2
                obtain ⟨vals1, hv1⟩ : ∃ vals1, Aside0 (vals1 = vals.set j (.slice (some ⟨gx, 0, none⟩) r r)) := ⟨_, ⟨rfl⟩⟩
                obtain ⟨L1, hL1⟩ : ∃ L1, Aside0 (L1 = (msX m r c 0 j).set j (some (part cellsN cellsZ (colM m r j) 0))) := ⟨_, ⟨rfl⟩⟩
                rw [← hv1.out, ← hL1.out] at hRd
                obtain ⟨t1, t2, t3⟩ := hRd.out.there hi
                obtain ⟨L, hL⟩ : ∃ L, Aside0 (L = (part cellsN cellsZ (colM m r j) i).flatten) := ⟨_, ⟨rfl⟩⟩
                rw [← hL.out] at t1 t3
                have hth : wA.drew.there gx (i * 10) 10 := fun q hq => ⟨by rw [blk_cell (show wA.drew.heap[gx]? = _ from t1) (i * 10 + q)]; simp; omega, blk_frozen (show wA.drew.heap[gx]? = _ from t1) _⟩
                have hq0 : wA.drew.cell? ⟨hh, j, none⟩ = some (.slice (some ⟨gx, 0, none⟩) r r) := hRd.out.cell
                have hq1 : wA.drew.heap[gt]? = some (.cells #[.string ⟨#[]⟩, .float .f64 (F x), .string ⟨#[]⟩, .slice none 0 0, .slice none 0 0, .bool false, .string ⟨#[]⟩, .int .u8 1, .pointer none, .pointer none] 58 (0, 0)) := hT.out
                have hgxB := Aside0.mk t2
                clear t1 t2 t3 hL
                refine start_ (n := 8) (S := fun w' => w'.cell? ⟨hh, j, none⟩ = some (.slice (some ⟨gx, 0, none⟩) r r) ∧ w'.heap[gt]? = some (.cells #[.string ⟨#[]⟩, .float .f64 (F x), .string ⟨#[]⟩, .slice none 0 0, .slice none 0 0, .bool false, .string ⟨#[]⟩, .int .u8 1, .pointer none, .pointer none] 58 (0, 0))) (ds := [7]) #[false, false, false, false, false, false, false, false] (by kernel_rfl) rfl rfl ⟨hq0, hq1⟩ (fun hHeld => ?_)
                refine pure_ (i := 0) (N := some 100) (v := ?_) (a' := ?_) #[true, false, false, false, false, false, false, false] rfl rfl (by kernel_rfl) (fun _ _ _ h => h) (Or.inl ⟨by rfl, ?_⟩) ?_ ?_
                rotate_left
                · intro w'
                  go_simp
                  with_reducible rfl
                rotate_left
                · simp only [Act.put, List.setIfInBounds_toArray, List.set_cons_zero, List.set_cons_succ, i64_w, i32_w]
                  rfl
                refine pure_ (i := 1) (N := some 101) (v := ?_) (a' := ?_) #[true, true, false, false, false, false, false, false] rfl rfl (by kernel_rfl) (fun _ _ _ h => h) (Or.inl ⟨by rfl, ?_⟩) ?_ ?_
                rotate_left
                · intro w'
                  go_simp
                  with_reducible rfl
                rotate_left
                · simp only [Act.put, List.setIfInBounds_toArray, List.set_cons_zero, List.set_cons_succ, i64_w, i32_w]
                  rfl
                refine pure_ (i := 2) (N := some 102) (v := ?_) (a' := ?_) #[true, true, true, false, false, false, false, false] rfl rfl (by kernel_rfl) (fun _ _ _ h => h) (Or.inl ⟨by rfl, ?_⟩) ?_ ?_
                rotate_left
                · intro w'
                  go_simp
                  with_reducible rfl
                rotate_left
                · simp only [Act.put, List.setIfInBounds_toArray, List.set_cons_zero, List.set_cons_succ, i64_w, i32_w]
                  rfl
                refine pure_ (i := 4) (N := some 104) (v := ?_) (a' := ?_) #[true, true, true, false, true, false, false, false] rfl rfl (by kernel_rfl) (fun _ _ _ h => h) (Or.inl ⟨by rfl, ?_⟩) ?_ ?_
                rotate_left
                · intro w'
                  go_simp
                  with_reducible rfl
                rotate_left
                · simp only [Act.put, List.setIfInBounds_toArray, List.set_cons_zero, List.set_cons_succ, i64_w, i32_w]
                  rfl
                refine take_ (i := 3) (N := some 103) (v := ?_) (a' := ?_) #[true, true, true, true, true, false, false, false] rfl rfl (by kernel_rfl) (fun _ _ _ h => h) (Or.inl ⟨by rfl, ?_⟩) hHeld ?_ ?_
                rotate_left
                · rintro w' ⟨s0, s1⟩
                  go_simp
                  with_reducible rfl
                rotate_left
                · simp only [Act.put, List.setIfInBounds_toArray, List.set_cons_zero, List.set_cons_succ, i64_w, i32_w]
                  rfl
                refine take_ (i := 5) (N := some 105) (v := ?_) (a' := ?_) #[true, true, true, true, true, true, false, false] rfl rfl (by kernel_rfl) (fun _ _ _ h => h) (Or.inl ⟨by rfl, ?_⟩) hHeld ?_ ?_
                rotate_left
                · rintro w' ⟨s0, s1⟩
                  have e0 : w'.cell? ⟨gt, 0, none⟩ = some (.string ⟨#[]⟩) := blk_cell s1 0
                  have e1 : w'.cell? ⟨gt, 1, none⟩ = some (.float .f64 (F x)) := blk_cell s1 1
                  have e2 : w'.cell? ⟨gt, 2, none⟩ = some (.string ⟨#[]⟩) := blk_cell s1 2
                  have e3 : w'.cell? ⟨gt, 3, none⟩ = some (.slice none 0 0) := blk_cell s1 3
                  have e4 : w'.cell? ⟨gt, 4, none⟩ = some (.slice none 0 0) := blk_cell s1 4
                  have e5 : w'.cell? ⟨gt, 5, none⟩ = some (.bool false) := blk_cell s1 5
                  have e6 : w'.cell? ⟨gt, 6, none⟩ = some (.string ⟨#[]⟩) := blk_cell s1 6
                  have e7 : w'.cell? ⟨gt, 7, none⟩ = some (.int .u8 1) := blk_cell s1 7
                  have e8 : w'.cell? ⟨gt, 8, none⟩ = some (.pointer none) := blk_cell s1 8
                  have e9 : w'.cell? ⟨gt, 9, none⟩ = some (.pointer none) := blk_cell s1 9
                  go_simp
                  with_reducible rfl
                rotate_left
                · simp only [Act.put, List.setIfInBounds_toArray, List.set_cons_zero, List.set_cons_succ, i64_w, i32_w]
                  rfl
                refine pure_ (i := 6) (N := some 106) (v := ?_) (a' := ?_) #[true, true, true, true, true, true, true, false] rfl rfl (by kernel_rfl) (fun _ _ _ h => h) (Or.inl ⟨by rfl, ?_⟩) ?_ ?_
                rotate_left
                · intro w'
                  go_simp
                  with_reducible rfl
                rotate_left
                · simp only [Act.put, List.setIfInBounds_toArray, List.set_cons_zero, List.set_cons_succ, i64_w, i32_w]
                  rfl
                refine last_ (i := 7) (N := none) #[true, true, true, true, true, true, true, true] rfl rfl (by kernel_rfl) (by decide) (fun K hK => ?_)
                refine store_mid_step 58 (.tmp 106) (.tmp 105) (by rfl) rfl rfl gx (i * 10) #[.string ⟨#[]⟩, .float .f64 (F x), .string ⟨#[]⟩, .slice none 0 0, .slice none 0 0, .bool false, .string ⟨#[]⟩, .int .u8 1, .pointer none, .pointer none] rfl rfl hth (by kernel_rfl) (by simp [Value.oneCell']) ?_
                refine hK.out _ _ ?_
                clear hK K
                refine done_ (by kernel_rfl) ?_

                go_wp2
                go_roundg (gk - 1)
                case measure => have := HKj.out; omega
                case rel =>
                  refine ⟨j + 1, vals1, by simp, ⟨by have := HKj.out; omega⟩, ⟨?_⟩, ⟨below_setCells hgxB.out _ _ _ _ hBA.out.drew⟩⟩
                  have h9 := (hRd.out.below (Below.refl _ _).drew).store hi hr'.out.2 hj
                  rw [← hx.out] at h9
                  exact h9
              · obtain ⟨gx, hRd⟩ := HMj.out.ready hi0 hj
                have kx : ∀ o, (wr.alloc o).cell? ⟨hh, j, none⟩ = some (.slice (some ⟨gx, 0, none⟩) r r) := fun o => pw_cell_below ((Below.refl _ _).alloc (Nat.le_refl _) o) hRd.cell
                replace hi0 := Aside0.mk hi0
                replace hfull := Aside0.mk hfull
                replace hRd := Aside0.mk hRd
                go_wp2_with (refine wpList_loadEl rfl 58 (.tmp 84) rfl ⟨g5, qi * 10 + j * 10, none⟩ 0 rfl [Value.string ⟨#[]⟩, fl x, .string ⟨#[]⟩, .slice none 0 0, .slice none 0 0, .bool false, .string ⟨#[]⟩, .int .u8 1, .pointer none, .pointer none] _ hcell.out Try.underlying58 rfl (by kernel_rfl) ?_)
                obtain ⟨gt, hgt⟩ : ∃ gt, Aside0 (gt = wr.heap.size) := ⟨_, ⟨rfl⟩⟩
                rw [← hgt.out]
                obtain ⟨wA, hwA⟩ : ∃ wA, Aside0 (wA = wr.alloc (Obj.cells #[.string ⟨#[]⟩, .float .f64 (F x), .string ⟨#[]⟩, .slice none 0 0, .slice none 0 0, .bool false, .string ⟨#[]⟩, .int .u8 1, .pointer none, .pointer none] 58)) := ⟨_, ⟨rfl⟩⟩
                rw [← hwA.out]
                have hT := Aside0.mk (show wA.heap[gt]? = some (.cells #[.string ⟨#[]⟩, .float .f64 (F x), .string ⟨#[]⟩, .slice none 0 0, .slice none 0 0, .bool false, .string ⟨#[]⟩, .int .u8 1, .pointer none, .pointer none] 58 (0, 0)) by rw [hwA.out, hgt.out]; exact heap_alloc_new _ _)
                have hBA := Aside0.mk (show Below hh wS wA by rw [hwA.out]; exact HBj.out.alloc (by omega) _)
                replace hRd := Aside0.mk (show Rd wA hh hh m r c i j gx vals (msX m r c i j) by rw [hwA.out]; exact hRd.out.below ((Below.refl _ _).alloc (Nat.le_refl _) _))
                clear hwA hgt hfull hfz kx
                obtain ⟨vals1, hv1⟩ : ∃ vals1, Aside0 (vals1 = vals) := ⟨_, ⟨rfl⟩⟩
                obtain ⟨L1, hL1⟩ : ∃ L1, Aside0 (L1 = msX m r c i j) := ⟨_, ⟨rfl⟩⟩
                rw [← hv1.out, ← hL1.out] at hRd
                obtain ⟨t1, t2, t3⟩ := hRd.out.there hi
                obtain ⟨L, hL⟩ : ∃ L, Aside0 (L = (part cellsN cellsZ (colM m r j) i).flatten) := ⟨_, ⟨rfl⟩⟩
                rw [← hL.out] at t1 t3
                have hth : wA.drew.there gx (i * 10) 10 := fun q hq => ⟨by rw [blk_cell (show wA.drew.heap[gx]? = _ from t1) (i * 10 + q)]; simp; omega, blk_frozen (show wA.drew.heap[gx]? = _ from t1) _⟩
                have hq0 : wA.drew.cell? ⟨hh, j, none⟩ = some (.slice (some ⟨gx, 0, none⟩) r r) := hRd.out.cell
                have hq1 : wA.drew.heap[gt]? = some (.cells #[.string ⟨#[]⟩, .float .f64 (F x), .string ⟨#[]⟩, .slice none 0 0, .slice none 0 0, .bool false, .string ⟨#[]⟩, .int .u8 1, .pointer none, .pointer none] 58 (0, 0)) := hT.out
                have hgxB := Aside0.mk t2
                clear t1 t2 t3 hL
                refine start_ (n := 8) (S := fun w' => w'.cell? ⟨hh, j, none⟩ = some (.slice (some ⟨gx, 0, none⟩) r r) ∧ w'.heap[gt]? = some (.cells #[.string ⟨#[]⟩, .float .f64 (F x), .string ⟨#[]⟩, .slice none 0 0, .slice none 0 0, .bool false, .string ⟨#[]⟩, .int .u8 1, .pointer none, .pointer none] 58 (0, 0))) (ds := [7]) #[false, false, false, false, false, false, false, false] (by kernel_rfl) rfl rfl ⟨hq0, hq1⟩ (fun hHeld => ?_)
                refine pure_ (i := 0) (N := some 100) (v := ?_) (a' := ?_) #[true, false, false, false, false, false, false, false] rfl rfl (by kernel_rfl) (fun _ _ _ h => h) (Or.inl ⟨by rfl, ?_⟩) ?_ ?_
                rotate_left
                · intro w'
                  go_simp
                  with_reducible rfl
                rotate_left
                · simp only [Act.put, List.setIfInBounds_toArray, List.set_cons_zero, List.set_cons_succ, i64_w, i32_w]
                  rfl
                refine pure_ (i := 1) (N := some 101) (v := ?_) (a' := ?_) #[true, true, false, false, false, false, false, false] rfl rfl (by kernel_rfl) (fun _ _ _ h => h) (Or.inl ⟨by rfl, ?_⟩) ?_ ?_
                rotate_left
                · intro w'
                  go_simp
                  with_reducible rfl
                rotate_left
                · simp only [Act.put, List.setIfInBounds_toArray, List.set_cons_zero, List.set_cons_succ, i64_w, i32_w]
                  rfl
                refine pure_ (i := 2) (N := some 102) (v := ?_) (a' := ?_) #[true, true, true, false, false, false, false, false] rfl rfl (by kernel_rfl) (fun _ _ _ h => h) (Or.inl ⟨by rfl, ?_⟩) ?_ ?_
                rotate_left
                · intro w'
                  go_simp
                  with_reducible rfl
                rotate_left
                · simp only [Act.put, List.setIfInBounds_toArray, List.set_cons_zero, List.set_cons_succ, i64_w, i32_w]
                  rfl
                refine pure_ (i := 4) (N := some 104) (v := ?_) (a' := ?_) #[true, true, true, false, true, false, false, false] rfl rfl (by kernel_rfl) (fun _ _ _ h => h) (Or.inl ⟨by rfl, ?_⟩) ?_ ?_
                rotate_left
                · intro w'
                  go_simp
                  with_reducible rfl
                rotate_left
                · simp only [Act.put, List.setIfInBounds_toArray, List.set_cons_zero, List.set_cons_succ, i64_w, i32_w]
                  rfl
                refine take_ (i := 3) (N := some 103) (v := ?_) (a' := ?_) #[true, true, true, true, true, false, false, false] rfl rfl (by kernel_rfl) (fun _ _ _ h => h) (Or.inl ⟨by rfl, ?_⟩) hHeld ?_ ?_
                rotate_left
                · rintro w' ⟨s0, s1⟩
                  go_simp
                  with_reducible rfl
                rotate_left
                · simp only [Act.put, List.setIfInBounds_toArray, List.set_cons_zero, List.set_cons_succ, i64_w, i32_w]
                  rfl
                refine take_ (i := 5) (N := some 105) (v := ?_) (a' := ?_) #[true, true, true, true, true, true, false, false] rfl rfl (by kernel_rfl) (fun _ _ _ h => h) (Or.inl ⟨by rfl, ?_⟩) hHeld ?_ ?_
                rotate_left
                · rintro w' ⟨s0, s1⟩
                  have e0 : w'.cell? ⟨gt, 0, none⟩ = some (.string ⟨#[]⟩) := blk_cell s1 0
                  have e1 : w'.cell? ⟨gt, 1, none⟩ = some (.float .f64 (F x)) := blk_cell s1 1
                  have e2 : w'.cell? ⟨gt, 2, none⟩ = some (.string ⟨#[]⟩) := blk_cell s1 2
                  have e3 : w'.cell? ⟨gt, 3, none⟩ = some (.slice none 0 0) := blk_cell s1 3
                  have e4 : w'.cell? ⟨gt, 4, none⟩ = some (.slice none 0 0) := blk_cell s1 4
                  have e5 : w'.cell? ⟨gt, 5, none⟩ = some (.bool false) := blk_cell s1 5
                  have e6 : w'.cell? ⟨gt, 6, none⟩ = some (.string ⟨#[]⟩) := blk_cell s1 6
                  have e7 : w'.cell? ⟨gt, 7, none⟩ = some (.int .u8 1) := blk_cell s1 7
                  have e8 : w'.cell? ⟨gt, 8, none⟩ = some (.pointer none) := blk_cell s1 8
                  have e9 : w'.cell? ⟨gt, 9, none⟩ = some (.pointer none) := blk_cell s1 9
                  go_simp
                  with_reducible rfl
                rotate_left
                · simp only [Act.put, List.setIfInBounds_toArray, List.set_cons_zero, List.set_cons_succ, i64_w, i32_w]
                  rfl
                refine pure_ (i := 6) (N := some 106) (v := ?_) (a' := ?_) #[true, true, true, true, true, true, true, false] rfl rfl (by kernel_rfl) (fun _ _ _ h => h) (Or.inl ⟨by rfl, ?_⟩) ?_ ?_
                rotate_left
                · intro w'
                  go_simp
                  with_reducible rfl
                rotate_left
                · simp only [Act.put, List.setIfInBounds_toArray, List.set_cons_zero, List.set_cons_succ, i64_w, i32_w]
                  rfl
                refine last_ (i := 7) (N := none) #[true, true, true, true, true, true, true, true] rfl rfl (by kernel_rfl) (by decide) (fun K hK => ?_)
                refine store_mid_step 58 (.tmp 106) (.tmp 105) (by rfl) rfl rfl gx (i * 10) #[.string ⟨#[]⟩, .float .f64 (F x), .string ⟨#[]⟩, .slice none 0 0, .slice none 0 0, .bool false, .string ⟨#[]⟩, .int .u8 1, .pointer none, .pointer none] rfl rfl hth (by kernel_rfl) (by simp [Value.oneCell']) ?_
                refine hK.out _ _ ?_
                clear hK K
                refine done_ (by kernel_rfl) ?_

                go_wp2
                go_roundg (gk - 1)
                case measure => have := HKj.out; omega
                case rel =>
                  refine ⟨j + 1, vals1, by simp, ⟨by have := HKj.out; omega⟩, ⟨?_⟩, ⟨below_setCells hgxB.out _ _ _ _ hBA.out.drew⟩⟩
                  have h9 := (hRd.out.below (Below.refl _ _).drew).store hi hr'.out.2 hj
                  rw [← hx.out] at h9
                  exact h9
            · have d2 : decide ((j : Int) < (c : Int)) = false := decide_eq_false (by omega)
              obtain rfl : c = j := by have := HKj.out; omega
              go_wp2
              go_roundg (gi - 1)
              case measure => have := HKi.out; have := hgi.out; omega
              case rel => exact ⟨i + 1, vals, by simp, ⟨by have := HKi.out; have := hgi.out; omega⟩, ⟨HMj.out.next⟩, HBj⟩
        · have d1 : decide ((i : Int) < (r : Int)) = false := decide_eq_false (by omega)
          obtain rfl : r = i := by have := HKi.out; omega
          have hRw := Aside0.mk (show wr.heap[w.heap.size]? = _ from (HBi.out.block _ (by have := hz1.out; have := hhh.out; omega)).trans hRz.out)
          have hBw := Aside0.mk (below_then HB.out (show w.heap.size ≤ wS.heap.size by have := hz1.out; omega) (show Below wS.heap.size wS wr by rw [← hhh.out]; exact HBi.out))
          go_wp2_with (first
            | (go_at_call 33; refine (newMatrix _ _ c c rfl _).mono ?_; rintro e w6 ⟨rfl, hb6⟩; have hb6 := Aside0.mk hb6; have hR6 := Aside0.mk (blk_below hRw.out hb6.out))
            | (refine wpList_store_row rfl 58 (.tmp 4) (.tmp 110) rfl w.heap.size _ rfl rfl 58 _ hR6.out (by kernel_rfl) rfl (by simp [Value.oneCell']) ?_))
          refine bodyPost_ret (results_cell_row rfl _ _ w.heap.size 58 #[.string ⟨#[]⟩, fl 0, .string ⟨#[]⟩, .slice none 0 0, .slice (some ⟨hh, 0, none⟩) c c, .bool false, .string ⟨#[]⟩, .int .u8 4, .pointer none, .pointer none] (0, 0) _ rfl (setRow_heap _ _ _ _ _ _ hR6.out) Try.underlying58 rfl (by kernel_rfl)) rfl ?_
          refine ⟨[.string ⟨#[]⟩, fl 0, .string ⟨#[]⟩, .slice none 0 0, .slice (some ⟨hh, 0, none⟩) c c, .bool false, .string ⟨#[]⟩, .int .u8 4, .pointer none, .pointer none], rfl, ?_, Below.setRow (below_step hBw.out hb6.out) (Nat.le_refl _) _⟩
          have hCf := HMi.out.done (by have := hr'.out; omega) (w6.setRow w.heap.size #[.string ⟨#[]⟩, fl 0, .string ⟨#[]⟩, .slice none 0 0, .slice (some ⟨hh, 0, none⟩) c c, .bool false, .string ⟨#[]⟩, .int .u8 4, .pointer none, .pointer none]) (fun q hq hq2 => by
            have := hz1.out
            have := hhh.out
            rw [setRow_other _ _ _ _ (by omega)]
            exact hb6.out.block q hq2)
          have hl9 : ((turnM m r c).map (fun x => x.map nu)).length = c := by simp [turnM, mat]
          refine ⟨[.string ⟨#[]⟩, fl 0, .string ⟨#[]⟩, .slice none 0 0], [.slice (some ⟨hh, 0, none⟩) c c, .bool false, .string ⟨#[]⟩, .int .u8 4, .pointer none, .pointer none], rfl, rfl, [.slice (some ⟨hh, 0, none⟩) c c], [.bool false, .string ⟨#[]⟩, .int .u8 4, .pointer none, .pointer none], rfl, ⟨some ⟨hh, 0, none⟩, c, ?_, ?_, ?_⟩, rfl⟩
          · show [Value.slice (some ⟨hh, 0, none⟩) c c] = [Value.slice (some ⟨hh, 0, none⟩) ((turnM m r c).map (fun x => x.map nu)).length c]
            rw [hl9]
          · show ((turnM m r c).map (fun x => x.map nu)).length ≤ c
            rw [hl9]; exact Nat.le_refl _
          · show (Kd.slice 58 nF).C _ (some ⟨hh, 0, none⟩) ((turnM m r c).map (fun x => x.map nu)).length ((turnM m r c).map (fun x => x.map nu))
            rw [hl9]; exact hCf
end Go.Proofs.Ytedbbekfpficpaa
