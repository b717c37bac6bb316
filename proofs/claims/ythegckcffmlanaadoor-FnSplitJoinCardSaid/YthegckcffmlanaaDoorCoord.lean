import Derived.Test.YthegckcffmlanaaDoorSplit
namespace Go.Proofs.YthegckcffmlanaaDoor
open Go.RowKit Go.Sort Go.Lib Go.Proofs.YthegckcffmlanaaDoorW.PrintWords
/-- What SplitCellName answers: the column's text, the row, and whether there is no error. -/
def SplitR (s : ByteArray) (c : ByteArray) (v : Int) (b : Bool) : Prop :=
  (idxFunc Plain.alphaN true s ≠ 0 ∧ c = ⟨#[]⟩ ∧ v = -1 ∧ b = false) ∨
  (idxFunc Plain.alphaN true s = 0 ∧ lastIdxFunc Plain.alphaN true s = (s.size : Int) - 1 ∧ c = ⟨#[]⟩ ∧ v = -1 ∧ b = false) ∨
  (∃ (D : Nat) (k : Nat) (c' : ByteArray), D + 1 < s.size ∧ idxFunc Plain.alphaN true s = 0 ∧ lastIdxFunc Plain.alphaN true s = D ∧ PFnCellText.excelize_zzReplaceAll.f k (s.extract 0 (D + 1)) ⟨#[36]⟩ ⟨#[]⟩ = some c' ∧
    (∀ v, 1 ≤ v → Lib.atoiAll (s.extract (D + 1) s.size).data.toList ≠ .ok v) ∧ c = ⟨#[]⟩ ∧ v = -1 ∧ b = false) ∨
  (∃ (D : Nat) (k : Nat), D + 1 < s.size ∧ idxFunc Plain.alphaN true s = 0 ∧ lastIdxFunc Plain.alphaN true s = D ∧ PFnCellText.excelize_zzReplaceAll.f k (s.extract 0 (D + 1)) ⟨#[36]⟩ ⟨#[]⟩ = some c ∧
    1 ≤ v ∧ Lib.atoiAll (s.extract (D + 1) s.size).data.toList = .ok v ∧ b = true)
theorem sp22 (s : ByteArray) (c : ByteArray) (v : Int) (b : Bool) (w : World) (hs : s.size ≤ 40) (hT : HTabs w) (h3 : HErr 3 w) (h4 : HErr 4 w) (h : SplitR s c v b) :
    Calls Tryd.prog 22 #[.string s] w (SpEnd c v b w) := by
  rcases h with ⟨h, rfl, rfl, rfl⟩ | ⟨h, hl, rfl, rfl, rfl⟩ | ⟨D, k, c', hD, h, hl, hz, hn, rfl, rfl, rfl⟩ | ⟨D, k, hD, h, hl, hz, hv, hn, rfl⟩
  · exact split_first s w h
  · exact split_whole s w hs hT h hl
  · by_cases hx : ∃ v, Lib.atoiAll (s.extract (D + 1) s.size).data.toList = .ok v
    · obtain ⟨v, hx⟩ := hx
      by_cases h1 : 1 ≤ v
      · exact absurd hx (hn v h1)
      · exact split_low s w hs hT D hD h hl k c' hz v (by omega) hx
    · exact split_bad s w hs hT h3 h4 D hD h hl k c' hz (fun v hv => hx ⟨v, hv⟩)
  · exact split_good s w hs hT D hD h hl k c hz v hv hn
theorem SplitR.size {s c : ByteArray} {v : Int} (_h : SplitR s c v true) : 1 ≤ v := by
  rcases _h with ⟨_, _, _, h⟩ | ⟨_, _, _, _, h⟩ | ⟨_, _, _, _, _, _, _, _, _, _, h⟩ | ⟨_, _, _, _, _, _, h, _⟩
  · cases h
  · cases h
  · cases h
  · exact h
set_option maxHeartbeats 400000 in
theorem im17 (s : ByteArray) (c : ByteArray) (v : Int) (b : Bool) (w : World) (hs : s.size ≤ 40) (hT : HTabs w) (h3 : HErr 3 w) (h4 : HErr 4 w) (h : SplitR s c v b) :
    Calls Tryd.prog 17 #[.string s] w fun e w' => e = .returned (.tuple #[.string c, .int .i64 v, .bool b]) ∧ Below w.heap.size w w' := by
  have HA := Aside0.mk h
  clear h
  go_enter Tryd.func17, Tryd.ntmps17
  cases b with
  | true =>
    go_wp2_with (go_at_call 22; refine (sp22 s c v true _ hs hT h3 h4 HA.out).mono ?_; rintro e w' ⟨x, hx, rfl, hb⟩; obtain rfl : x = .nilIface := hx)
    go_quiet (fail)
    go_wp2
    go_ret3
    exact ⟨rfl, pw_below_drewN hb _⟩
  | false =>
    go_wp2_with (go_at_call 22; refine (sp22 s c v false _ hs hT h3 h4 HA.out).mono ?_; rintro e w' ⟨x, hx, rfl, hb⟩; obtain ⟨av, rfl⟩ : ∃ a, x = .iface 75 (.pointer (some a)) := hx)
    go_quiet (fail)
    go_wp2
    go_ret3
    exact ⟨rfl, pw_below_drewN hb _⟩
set_option maxHeartbeats 400000 in
theorem badCoord (s : ByteArray) (x : Value) (w : World) :
    Calls Tryd.prog 27 #[.string s, x] w fun e w' => e = .returned (.iface 75 (.pointer (some ⟨w.heap.size, 0, none⟩))) ∧ Below w.heap.size w w' := by
  go_enter Tryd.func27, Tryd.ntmps27
  go_wp2_with (go_at_call 37; refine (errNew _ _).mono ?_; rintro e w' ⟨rfl, hb⟩)
  go_ret
  exact ⟨rfl, hb⟩
/-- What CellNameToCoordinates answers. -/
def CoR (s : ByteArray) (col row : Int) (b : Bool) : Prop :=
  (∃ c v, SplitR s c v false ∧ col = -1 ∧ row = -1 ∧ b = false) ∨ (∃ c v, SplitR s c v true ∧ 1048576 < v ∧ col = -1 ∧ row = -1 ∧ b = false) ∨
  (∃ c, SplitR s c row true ∧ row ≤ 1048576 ∧ c.size ≤ 40 ∧ NmR c col b)
def CoEnd (col row : Int) (b : Bool) (w : World) (e : Ending) (w' : World) : Prop := ∃ x, ErrB b x ∧ e = .returned (.tuple #[.int .i64 col, .int .i64 row, x]) ∧ Below w.heap.size w w'
set_option maxHeartbeats 400000 in
theorem co19 (s : ByteArray) (col row : Int) (b : Bool) (w : World) (hs : s.size ≤ 40) (hT : HTabs w) (h0 : HErr 0 w) (h1 : HErr 1 w) (h3 : HErr 3 w) (h4 : HErr 4 w) (h : CoR s col row b) :
    Calls Tryd.prog 19 #[.string s] w (CoEnd col row b w) := by
  rcases h with ⟨c, v, hS, rfl, rfl, rfl⟩ | ⟨c, v, hS, hv, rfl, rfl, rfl⟩ | ⟨c, hS, hr, hc, hN⟩
  · have HS := Aside0.mk hS
    clear hS
    go_enter Tryd.func19, Tryd.ntmps19
    go_wp2_with (first | (go_at_call 22; refine (sp22 s c v false _ hs hT h3 h4 HS.out).mono ?_; rintro e w1 ⟨x, hx, rfl, hb⟩; obtain ⟨av, rfl⟩ : ∃ a, x = .iface 75 (.pointer (some a)) := hx) | (go_at_call 27; refine (badCoord _ _ _).mono ?_; rintro e w2 ⟨rfl, hb2⟩))
    go_ret3
    exact ⟨_, ⟨_, rfl⟩, rfl, below_step hb hb2⟩
  · have HS := Aside0.mk hS
    clear hS
    go_enter Tryd.func19, Tryd.ntmps19
    go_wp2_with (go_at_call 22; refine (sp22 s c v true _ hs hT h3 h4 HS.out).mono ?_; rintro e w1 ⟨x, hx, rfl, hb⟩; obtain rfl : x = .nilIface := hx; obtain ⟨a0, c0⟩ := h0.later hb)
    go_quiet (fail)
    go_wp2
    go_ret3
    exact ⟨_, ⟨_, rfl⟩, rfl, pw_below_drewN hb _⟩
  · have HS := Aside0.mk hS
    have HN := Aside0.mk hN
    clear hS hN
    have hc2 : c.size ≤ 9223372036854775807 := by omega
    cases b with
    | true =>
      go_enter Tryd.func19, Tryd.ntmps19
      go_wp2_with (fail)
      go_at_call 22; refine (sp22 s c row true _ hs hT h3 h4 HS.out).mono ?_; rintro e w1 ⟨x, hx, rfl, hb⟩; obtain rfl : x = .nilIface := hx
      go_wp2_with (fail)
      obtain ⟨a1, c1⟩ := h1.later hb
      go_at_call 23; refine (nmAny c col true _ hc2 a1 c1 HN.out).mono ?_; rintro e w2 ⟨v, hv, rfl, hb2⟩; obtain rfl : v = .nilIface := hv
      go_wp2
      go_ret3
      exact ⟨_, rfl, rfl, below_step hb hb2⟩
    | false =>
      go_enter Tryd.func19, Tryd.ntmps19
      go_wp2_with (fail)
      go_at_call 22; refine (sp22 s c row true _ hs hT h3 h4 HS.out).mono ?_; rintro e w1 ⟨x, hx, rfl, hb⟩; obtain rfl : x = .nilIface := hx
      go_wp2_with (fail)
      obtain ⟨a1, c1⟩ := h1.later hb
      go_at_call 23; refine (nmAny c col false _ hc2 a1 c1 HN.out).mono ?_; rintro e w2 ⟨v, hv, rfl, hb2⟩; obtain ⟨av, rfl⟩ : ∃ a, v = .iface 75 (.pointer (some a)) := hv
      go_wp2
      go_ret3
      exact ⟨_, ⟨_, rfl⟩, rfl, below_step hb hb2⟩
set_option maxHeartbeats 400000 in
theorem im12 (s : ByteArray) (col row : Int) (b : Bool) (w : World) (hs : s.size ≤ 40) (hT : HTabs w) (h0 : HErr 0 w) (h1 : HErr 1 w) (h3 : HErr 3 w) (h4 : HErr 4 w) (h : CoR s col row b) :
    Calls Tryd.prog 12 #[.string s] w fun e w' => e = .returned (.tuple #[.int .i64 col, .int .i64 row, .bool b]) ∧ Below w.heap.size w w' := by
  have HA := Aside0.mk h
  clear h
  go_enter Tryd.func12, Tryd.ntmps12
  cases b with
  | true =>
    go_wp2_with (go_at_call 19; refine (co19 s col row true _ hs hT h0 h1 h3 h4 HA.out).mono ?_; rintro e w' ⟨x, hx, rfl, hb⟩; obtain rfl : x = .nilIface := hx)
    go_quiet (fail)
    go_wp2
    go_ret3
    exact ⟨rfl, pw_below_drewN hb _⟩
  | false =>
    go_wp2_with (go_at_call 19; refine (co19 s col row false _ hs hT h0 h1 h3 h4 HA.out).mono ?_; rintro e w' ⟨x, hx, rfl, hb⟩; obtain ⟨av, rfl⟩ : ∃ a, x = .iface 75 (.pointer (some a)) := hx)
    go_quiet (fail)
    go_wp2
    go_ret3
    exact ⟨rfl, pw_below_drewN hb _⟩
end Go.Proofs.YthegckcffmlanaaDoor
